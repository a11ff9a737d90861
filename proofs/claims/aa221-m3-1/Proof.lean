import JvmDerived
import JvmDerived.Pilot.@@N@@Statement
import JvmDerived.Pilot.@@N@@Code
set_option linter.unusedVariables false
set_option linter.unusedSimpArgs false
@@BLOCK:NumsL.lean.txt@@
namespace Jvm.Pilot.@@N@@
open Jvm Jvm.ClassFile Sem Op Lib Jvm.Free Jvm.Stand Jvm.LawKit Jvm.RoadKit Bundle Jvm.Pilot.@@N@@.Jvm.D

section OwnKit
variable {p : Program} {l : Launch} {e : Env} {R : Room} {s : State} {m : MethodId} {args : Array Value} {below : List Frame} {meth : Method} {c : Code} {T : State} {locs : List Loc} {cells slots : Nat}
def own_Go (p : Program) (e : Env) (below : List Frame) (s : State) (Q : Option Value → Heap → List Loc → Prop) (rc rs : Nat) (T : State) (g : JFrame) : Prop :=
  ∃ s₂ o, Steps p.tables e below (T.setTop g) s₂ ∧ s₂.status = .running ∧ Ended s₂ below o ∧ ∃ v L, o = .returned v ∧ Q v s₂.heap L ∧ FrameEnd s o s₂ L rc rs
variable {Q : Option Value → Heap → List Loc → Prop} {rc rs : Nat} {T' : State} {g g' : JFrame}
theorem own_step (st : ∀ target, Steps p.tables e below (T'.setTop g') target → Steps p.tables e below (T.setTop g) target) (k : own_Go p e below s Q rc rs T' g') : own_Go p e below s Q rc rs T g := by
  obtain ⟨s₂, o, h1, h2⟩ := k
  exact ⟨s₂, o, st _ h1, h2⟩
theorem own_tr (st : Steps p.tables e below (T.setTop g) (T'.setTop g')) (k : own_Go p e below s Q rc rs T' g') : own_Go p e below s Q rc rs T g := by
  obtain ⟨s₂, o, h1, h2⟩ := k
  exact ⟨s₂, o, st.trans h1, h2⟩
theorem own_cast (q : g = g') (k : own_Go p e below s Q rc rs T g') : own_Go p e below s Q rc rs T g := q ▸ k
theorem own_done (X : Stand p l e R s m args below meth c T locs cells slots) {v : Option Value} (hv : meth.sig.returnType = none → v = none) (hlk : meth.locks = false)
    (st : ∀ fs, (∀ (f : JFrame) (acts : List Action), f.method = m → f.locked = none → f.entered = [] → (doReturn e (T.setTop f) acts v).1 = T.setFrames fs) → Steps p.tables e below (T.setTop g) (T.setFrames fs))
    (hQ : Q v T.heap locs) (hc : cells ≤ rc) (hs : slots ≤ rs) : own_Go p e below s Q rc rs T g := by
  obtain ⟨fs, hr, hrun, hended, hW, hsame⟩ := X.leave (v := v) hv hlk
  exact ⟨_, _, st fs hr, hrun, hended, v, locs, rfl, hQ, ⟨_, rfl⟩, hW, hsame.mono hc hs⟩
theorem own_rN (X : Stand p l e R s m args below meth c T locs cells slots) (hx : p.tables.exec = Jvm.exec) (hlk : meth.locks = false) {t : FieldType} (hret : meth.sig.returnType = some t) (ht : t = .boolean ∨ t = .byte ∨ t = .char ∨ t = .short) {pc : Nat} {Ls : Array Slot} {z : Int32} {rest : List Value}
    (hd : decode c.code pc = .ok (.ireturn, 1)) (hQ : Q (some (.int (nar t z))) T.heap locs) (hc : cells ≤ rc) (hs : slots ≤ rs) : own_Go p e below s Q rc rs T (mkF m pc Ls (.int z :: rest)) :=
  own_done X (fun h => by rw [hret] at h; cases h) hlk (fun fs hr => retN X hx hret ht hd hr) hQ hc hs
theorem own_rI (X : Stand p l e R s m args below meth c T locs cells slots) (hx : p.tables.exec = Jvm.exec) (hlk : meth.locks = false) (hret : meth.sig.returnType = some .int) {pc : Nat} {Ls : Array Slot} {z : Int32} {rest : List Value}
    (hd : decode c.code pc = .ok (.ireturn, 1)) (hQ : Q (some (.int z)) T.heap locs) (hc : cells ≤ rc) (hs : slots ≤ rs) : own_Go p e below s Q rc rs T (mkF m pc Ls (.int z :: rest)) :=
  own_done X (fun h => by rw [hret] at h; cases h) hlk (fun fs hr => retOut X hx hret rfl (Or.inl ⟨rfl, Or.inl rfl, _, rfl⟩) hd hr) hQ hc hs
theorem own_rJ (X : Stand p l e R s m args below meth c T locs cells slots) (hx : p.tables.exec = Jvm.exec) (hlk : meth.locks = false) (hret : meth.sig.returnType = some .long) {pc : Nat} {Ls : Array Slot} {z : Int64} {rest : List Value}
    (hd : decode c.code pc = .ok (.lreturn, 1)) (hQ : Q (some (.long z)) T.heap locs) (hc : cells ≤ rc) (hs : slots ≤ rs) : own_Go p e below s Q rc rs T (mkF m pc Ls (.long z :: rest)) :=
  own_done X (fun h => by rw [hret] at h; cases h) hlk (fun fs hr => retOut X hx hret rfl (Or.inr (Or.inl ⟨rfl, rfl, _, rfl⟩)) hd hr) hQ hc hs
theorem own_narA {t : FieldType} {w : Value} (ht : t.isReference = true) (hw : w.isRef = true) : narrow t w = w := by cases t <;> cases w <;> first | rfl | cases ht | cases hw
theorem own_rA (X : Stand p l e R s m args below meth c T locs cells slots) (hx : p.tables.exec = Jvm.exec) (hlk : meth.locks = false) {t : FieldType} (hret : meth.sig.returnType = some t) (ht : t.isReference = true) {pc : Nat} {Ls : Array Slot} {w : Value} {rest : List Value} (hw : w.isRef = true)
    (hd : decode c.code pc = .ok (.areturn, 1)) (hQ : Q (some w) T.heap locs) (hc : cells ≤ rc) (hs : slots ≤ rs) : own_Go p e below s Q rc rs T (mkF m pc Ls (w :: rest)) :=
  own_done X (fun h => by rw [hret] at h; cases h) hlk (fun fs hr => retOut X hx hret (own_narA ht hw) (Or.inr (Or.inr (Or.inr (Or.inr ⟨rfl, ht, hw⟩)))) hd hr) hQ hc hs
theorem own_rV (X : Stand p l e R s m args below meth c T locs cells slots) (hx : p.tables.exec = Jvm.exec) (hlk : meth.locks = false) (hret : meth.sig.returnType = none) {pc : Nat} {Ls : Array Slot}
    (hd : decode c.code pc = .ok (.return_, 1)) (hQ : Q none T.heap locs) (hc : cells ≤ rc) (hs : slots ≤ rs) : own_Go p e below s Q rc rs T (mkF m pc Ls []) :=
  own_done X (fun _ => rfl) hlk (fun fs hr => X.returnOut hx hret hd hr) hQ hc hs
end OwnKit

section OwnKit2
variable {p : Program} {l : Launch} {e : Env} {R : Room} {s : State} {m : MethodId} {args : Array Value} {below : List Frame} {meth : Method} {c : Code} {T : State} {locs : List Loc} {cells slots : Nat}
theorem own_s (T' : State) (g' : JFrame) {Q : Option Value → Heap → List Loc → Prop} {rc rs : Nat} {g : JFrame} (st : ∀ target, Steps p.tables e below (T'.setTop g') target → Steps p.tables e below (T.setTop g) target) (k : own_Go p e below s Q rc rs T' g') : own_Go p e below s Q rc rs T g := own_step st k
end OwnKit2
abbrev u_ : Slot := .unset
abbrev s_ : Slot := .second
abbrev own_j (x : Int64) : Slot := .val (.long x)
def own_LV : List Value := [.int 118, .int 97, .int 108, .int 105, .int 100]
def own_LI : List Value := [.int 105, .int 110, .int 118, .int 97, .int 108, .int 105, .int 100]
def own_form (n : Int32) (L : List Value) : Prop := (n = 0 ∧ L = []) ∨ (∃ c0 : Int32, n = 1 ∧ L = [.int c0]) ∨ (∃ c0 c1 : Int32, n = 2 ∧ L = [.int c0, .int c1]) ∨ (∃ c0 c1 c2 : Int32, n = 3 ∧ L = [.int c0, .int c1, .int c2]) ∨ (∃ c0 c1 c2 c3 : Int32, n = 4 ∧ L = [.int c0, .int c1, .int c2, .int c3]) ∨ (∃ c0 c1 c2 c3 c4 : Int32, n = 5 ∧ L = [.int c0, .int c1, .int c2, .int c3, .int c4]) ∨ (∃ c0 c1 c2 c3 c4 c5 : Int32, n = 6 ∧ L = [.int c0, .int c1, .int c2, .int c3, .int c4, .int c5]) ∨ (∃ c0 c1 c2 c3 c4 c5 c6 : Int32, n = 7 ∧ L = [.int c0, .int c1, .int c2, .int c3, .int c4, .int c5, .int c6]) ∨ (∃ c0 c1 c2 c3 c4 c5 c6 c7 : Int32, n = 8 ∧ L = [.int c0, .int c1, .int c2, .int c3, .int c4, .int c5, .int c6, .int c7])
def own_fc (n : Int32) (L : List Value) : Prop := (∃ c0 : Int32, n = 1 ∧ L = [.int c0] ∧ ¬ 255 < c0) ∨ (∃ c0 c1 : Int32, n = 2 ∧ L = [.int c0, .int c1] ∧ ¬ 255 < c0 ∧ ¬ 255 < c1) ∨ (∃ c0 c1 c2 : Int32, n = 3 ∧ L = [.int c0, .int c1, .int c2] ∧ ¬ 255 < c0 ∧ ¬ 255 < c1 ∧ ¬ 255 < c2) ∨ (∃ c0 c1 c2 c3 : Int32, n = 4 ∧ L = [.int c0, .int c1, .int c2, .int c3] ∧ ¬ 255 < c0 ∧ ¬ 255 < c1 ∧ ¬ 255 < c2 ∧ ¬ 255 < c3) ∨ (∃ c0 c1 c2 c3 c4 : Int32, n = 5 ∧ L = [.int c0, .int c1, .int c2, .int c3, .int c4] ∧ ¬ 255 < c0 ∧ ¬ 255 < c1 ∧ ¬ 255 < c2 ∧ ¬ 255 < c3 ∧ ¬ 255 < c4) ∨ (∃ c0 c1 c2 c3 c4 c5 : Int32, n = 6 ∧ L = [.int c0, .int c1, .int c2, .int c3, .int c4, .int c5] ∧ ¬ 255 < c0 ∧ ¬ 255 < c1 ∧ ¬ 255 < c2 ∧ ¬ 255 < c3 ∧ ¬ 255 < c4 ∧ ¬ 255 < c5) ∨ (∃ c0 c1 c2 c3 c4 c5 c6 : Int32, n = 7 ∧ L = [.int c0, .int c1, .int c2, .int c3, .int c4, .int c5, .int c6] ∧ ¬ 255 < c0 ∧ ¬ 255 < c1 ∧ ¬ 255 < c2 ∧ ¬ 255 < c3 ∧ ¬ 255 < c4 ∧ ¬ 255 < c5 ∧ ¬ 255 < c6) ∨ (∃ c0 c1 c2 c3 c4 c5 c6 c7 : Int32, n = 8 ∧ L = [.int c0, .int c1, .int c2, .int c3, .int c4, .int c5, .int c6, .int c7] ∧ ¬ 255 < c0 ∧ ¬ 255 < c1 ∧ ¬ 255 < c2 ∧ ¬ 255 < c3 ∧ ¬ 255 < c4 ∧ ¬ 255 < c5 ∧ ¬ 255 < c6 ∧ ¬ 255 < c7)
def own_tf (n : Int32) (L : List Value) : Prop := (n = 5 ∧ L = own_LV) ∨ (n = 7 ∧ L = own_LI)
def own_beq (x y : List Value) : Int32 := if x = y then 1 else 0
def own_at (L : List Value) (i : Int32) : Int32 := match L.getD i.toNatClampNeg (.int (0 : Int32)) with | .int z => z | _ => 0
theorem own_atV {n : Int32} {L : List Value} (h : own_tf n L) (i : Int32) : L.getD i.toNatClampNeg (.int (0 : Int32)) = .int (own_at L i) := by
  have key : ∀ j : Nat, (∃ z, own_LV.getD j (.int (0 : Int32)) = .int z) ∧ ∃ z, own_LI.getD j (.int (0 : Int32)) = .int z := fun j => by
    rcases j with _ | _ | _ | _ | _ | _ | _ | j <;> exact ⟨⟨_, rfl⟩, ⟨_, rfl⟩⟩
  obtain ⟨⟨z, hz⟩, ⟨y, hy⟩⟩ := key i.toNatClampNeg
  unfold own_at
  rcases h with ⟨-, rfl⟩ | ⟨-, rfl⟩
  · rw [hz]
  · rw [hy]
theorem own_fc8 {n : Int32} {L : List Value} (h : own_fc n L) : ¬ n < 0 ∧ n.toNatClampNeg ≤ 8 ∧ ¬ n = 0 := by
  rcases h with ⟨c0, rfl, rfl, h0⟩ | ⟨c0, c1, rfl, rfl, h0, h1⟩ | ⟨c0, c1, c2, rfl, rfl, h0, h1, h2⟩ | ⟨c0, c1, c2, c3, rfl, rfl, h0, h1, h2, h3⟩ | ⟨c0, c1, c2, c3, c4, rfl, rfl, h0, h1, h2, h3, h4⟩ | ⟨c0, c1, c2, c3, c4, c5, rfl, rfl, h0, h1, h2, h3, h4, h5⟩ | ⟨c0, c1, c2, c3, c4, c5, c6, rfl, rfl, h0, h1, h2, h3, h4, h5, h6⟩ | ⟨c0, c1, c2, c3, c4, c5, c6, c7, rfl, rfl, h0, h1, h2, h3, h4, h5, h6, h7⟩ <;> decide
theorem own_beq1 {x y : List Value} (h : ¬ own_beq x y = 0) : x = y := by
  unfold own_beq at h
  split at h
  · assumption
  · exact absurd rfl h
theorem own_beq0 {x y : List Value} (h : own_beq x y = 0) : ¬ x = y := fun q => by
  rw [own_beq, if_pos q] at h
  exact absurd h (by decide)
theorem own_VI : ¬ own_LI = own_LV := fun q => by
  have := congrArg List.length q
  exact absurd this (by decide)
theorem own_bF {x y : List Value} (h : ¬ x = y) : own_beq x y = 0 := if_neg h
theorem own_bT {x y : List Value} (h : x = y) : own_beq x y = 1 := if_pos h
theorem own_b1 {x y : List Value} (h : ¬ own_beq x y = 0) : own_beq x y = 1 := own_bT (own_beq1 h)
theorem own_bL {x y : List Value} (h : ¬ x.length = y.length) : own_beq x y = 0 := own_bF (fun q => h (congrArg _ q))
theorem own_fT {n : Int32} {L : List Value} (h : own_form n L) : (L.length = 5 → n = 5) ∧ (L.length = 7 → n = 7) := by
  rcases h with ⟨rfl, rfl⟩ | ⟨c0, rfl, rfl⟩ | ⟨c0, c1, rfl, rfl⟩ | ⟨c0, c1, c2, rfl, rfl⟩ | ⟨c0, c1, c2, c3, rfl, rfl⟩ | ⟨c0, c1, c2, c3, c4, rfl, rfl⟩ | ⟨c0, c1, c2, c3, c4, c5, rfl, rfl⟩ | ⟨c0, c1, c2, c3, c4, c5, c6, rfl, rfl⟩ | ⟨c0, c1, c2, c3, c4, c5, c6, c7, rfl, rfl⟩ <;> refine ⟨fun q => ?_, fun q => ?_⟩ <;> first | rfl | (simp at q)
theorem own_f5 {L : List Value} (h : own_form 5 L) : ∃ c0 c1 c2 c3 c4 : Int32, L = [.int c0, .int c1, .int c2, .int c3, .int c4] := by
  rcases h with ⟨q, rfl⟩ | ⟨c0, q, rfl⟩ | ⟨c0, c1, q, rfl⟩ | ⟨c0, c1, c2, q, rfl⟩ | ⟨c0, c1, c2, c3, q, rfl⟩ | ⟨c0, c1, c2, c3, c4, q, rfl⟩ | ⟨c0, c1, c2, c3, c4, c5, q, rfl⟩ | ⟨c0, c1, c2, c3, c4, c5, c6, q, rfl⟩ | ⟨c0, c1, c2, c3, c4, c5, c6, c7, q, rfl⟩
  · exact absurd q (by decide)
  · exact absurd q (by decide)
  · exact absurd q (by decide)
  · exact absurd q (by decide)
  · exact absurd q (by decide)
  · exact ⟨_, _, _, _, _, rfl⟩
  · exact absurd q (by decide)
  · exact absurd q (by decide)
  · exact absurd q (by decide)
theorem own_f7 {L : List Value} (h : own_form 7 L) : ∃ c0 c1 c2 c3 c4 c5 c6 : Int32, L = [.int c0, .int c1, .int c2, .int c3, .int c4, .int c5, .int c6] := by
  rcases h with ⟨q, rfl⟩ | ⟨c0, q, rfl⟩ | ⟨c0, c1, q, rfl⟩ | ⟨c0, c1, c2, q, rfl⟩ | ⟨c0, c1, c2, c3, q, rfl⟩ | ⟨c0, c1, c2, c3, c4, q, rfl⟩ | ⟨c0, c1, c2, c3, c4, c5, q, rfl⟩ | ⟨c0, c1, c2, c3, c4, c5, c6, q, rfl⟩ | ⟨c0, c1, c2, c3, c4, c5, c6, c7, q, rfl⟩
  · exact absurd q (by decide)
  · exact absurd q (by decide)
  · exact absurd q (by decide)
  · exact absurd q (by decide)
  · exact absurd q (by decide)
  · exact absurd q (by decide)
  · exact absurd q (by decide)
  · exact ⟨_, _, _, _, _, _, _, rfl⟩
  · exact absurd q (by decide)
theorem own_sr0 (x : Int32) : x >>> (0 : Int32) = x := by
  apply Int32.toBitVec_inj.mp
  simp
def Q_cod (Z : State) (sa : Addr) (ic : Int32) (h0 : Heap) (n0 : Nat) (v : Option Value) (h : Heap) (L : List Loc) : Prop := v = some (.int (0 : Int32)) ∧ Fr n0 L ∧ h = h0
theorem ef_rm_cod (m : MethodId) (x0 : Addr) : entryFrame m #[(.ref x0)] 1 = mkF m 0 #[.val (.ref x0)] [] := by first | (simp [entryFrame, mkF, argsToLocals, Value.category]; done) | rfl | (simp [entryFrame, mkF, argsToLocals, Value.category] <;> rfl)
theorem pn_0 : plainName "java/lang/String" = true := by first | (simp [plainName, overriddenIn]; done) | decide +kernel
theorem d2_0 : decode jdk_42_method_152_code 0 = .ok (.getstatic 38, 3) := by decide +kernel
theorem d2_3 : decode jdk_42_method_152_code 3 = .ok (.ifCond .eq 10, 3) := by decide +kernel
theorem d2_6 : decode jdk_42_method_152_code 6 = .ok (.aload_n 0, 1) := by decide +kernel
theorem d2_7 : decode jdk_42_method_152_code 7 = .ok (.getfield 15, 3) := by decide +kernel
theorem d2_10 : decode jdk_42_method_152_code 10 = .ok (.goto 4, 3) := by decide +kernel
theorem d2_14 : decode jdk_42_method_152_code 14 = .ok (.ireturn, 1) := by decide +kernel
set_option maxRecDepth 65536 in
set_option maxHeartbeats 40000000 in
theorem rm_cod (l : Launch) (Z : State) (a0 : Array Value) (hw : ∀ d ∈ tables_1, d.before a0 Z = true) (ws : List Jvm.Cond) (sa : Addr) (ic : Int32) (h0 : Heap) (n0 : Nat) (Z0 : n0 ≤ h0.size) (F_0 : Fld Z h0 sa "java/lang/String" "coder" "B" (.int (0 : Int32))) (O0 : Old Z n0 h0) (S_c : Sta Z Z.heap "java/lang/String" "COMPACT_STRINGS" "Z" (.int ic)) (hic : ¬ ic = 0) :
    MetFree l (⟨"java/lang/String", "coder", "()B"⟩ : MethodName) (head1 (Jvm.Cond.code (⟨"java/lang/String", "coder", "()B"⟩ : MethodName) jdk_42_method_152_code 1 (some (.byte)) :: ws) ({ frames := 0, cells := 0, slots := 0, locals := 0 } : Room)) (fun a U => a = #[(.ref sa)] ∧ Z.Warmed39 U.vm ∧ U.heap = h0) (fun _ _ _ _ _ => True) (fun _ U o U' => ∃ v L, o = .returned v ∧ (Q_cod Z sa ic h0 n0) v U'.heap L ∧ FrameEnd U o U' L ({ frames := 0, cells := 0, slots := 0, locals := 0 } : Room).cells ({ frames := 0, cells := 0, slots := 0, locals := 0 } : Room).slots) := by
  refine MetFree.of_bodySF (plainFor_of_name pn_0) hisR ?_
  intro p e s m args below meth c s₁ Bd hml0 hP hK
  obtain ⟨rfl, hZ, hh⟩ := hP
  have hx := Bd.exec
  have hby := Bd.bytes
  have hW := fun i d (h : tables_1[i]? = some d) => hw d (List.mem_of_getElem? h)
  have hlk : meth.locks = false := BodyLoose.notSynchronized Bd
  have hml : c.maxLocals = 1 := hml0
  have hown : s.vm.findClass "java/lang/String" = some m.cls := findClass_of_methodNamed Bd.named
  have hnm := (name_of_methodNamed Bd.named Bd.method).1
  have X0 : Stand p l e ({ frames := 0, cells := 0, slots := 0, locals := 0 } : Room) s m #[(.ref sa)] below meth c s₁ [] 0 0 := Stand.of_body Bd
  have e0 : s₁.heap = h0 := by rw [← hh, Bd.state]; rfl
  have N0 := Fr.nil n0
  show own_Go p e below s (Q_cod Z sa ic h0 n0) ({ frames := 0, cells := 0, slots := 0, locals := 0 } : Room).cells ({ frames := 0, cells := 0, slots := 0, locals := 0 } : Room).slots s₁ (entryFrame m #[(.ref sa)] 1)
  refine own_cast (g' := (mkF m 0 #[rv sa] [])) (ef_rm_cod m sa) ?_
  obtain ⟨T1, X1, e1, st1⟩ := getS2 X0 hx hZ hown (host := "") (Or.inl (hW 19 _ rfl)) Via.refl e0 (S_c.ext O0.2) (g := (mkF m 0 #[rv sa] [])) rfl (hb hby d2_0)
  refine own_s T1 (mkF m 3 #[rv sa] [.int ic]) st1 ?_
  refine own_s T1 (mkF m 6 #[rv sa] []) (fun t k => XS.ifNo X1.here hx rfl (hb hby d2_3) rfl ((if0 _ _).trans (feq hic).1) k) ?_
  refine own_s T1 (mkF m 7 #[rv sa] [.ref sa]) (fun t k => XS.aloadN X1.here hx rfl (hb hby d2_6) rfl rfl k) ?_
  obtain ⟨T2, X2, e2, st2⟩ := getF X1 hx hZ hown (host := "") (Or.inl (hW 20 _ rfl)) Via.refl e1 F_0 (g := (mkF m 7 #[rv sa] [.ref sa])) rfl rfl (hb hby d2_7)
  refine own_s T2 (mkF m 10 #[rv sa] [.int 0]) st2 ?_
  refine own_s T2 (mkF m 14 #[rv sa] [.int 0]) (fun t k => XS.goto X2.here hx rfl (pc0 := 10) (pc' := 14) rfl (hb hby d2_10) (by decide) (by decide) k) ?_
  refine own_rN X2 hx hlk Bd.returns (by simp) (hb hby d2_14) ?_ (by decide) (by decide)
  rw [e2]
  exact ⟨rfl, N0, rfl⟩
def Q_len (Z : State) (sa : Addr) (sb : Addr) (sk : ClassId) (zn : Int32) (vl : List Value) (ic : Int32) (h0 : Heap) (n0 : Nat) (v : Option Value) (h : Heap) (L : List Loc) : Prop := v = some (.int zn) ∧ Fr n0 L ∧ h = h0
theorem ef_rm_len (m : MethodId) (x0 : Addr) : entryFrame m #[(.ref x0)] 1 = mkF m 0 #[.val (.ref x0)] [] := by first | (simp [entryFrame, mkF, argsToLocals, Value.category]; done) | rfl | (simp [entryFrame, mkF, argsToLocals, Value.category] <;> rfl)
theorem d1_0 : decode jdk_42_method_54_code 0 = .ok (.aload_n 0, 1) := by decide +kernel
theorem d1_1 : decode jdk_42_method_54_code 1 = .ok (.getfield 9, 3) := by decide +kernel
theorem d1_4 : decode jdk_42_method_54_code 4 = .ok (.arraylength, 1) := by decide +kernel
theorem d1_5 : decode jdk_42_method_54_code 5 = .ok (.aload_n 0, 1) := by decide +kernel
theorem pd_0 : parseMethodDescriptor "()B" = some ⟨[], some (.byte)⟩ := by decide +kernel
theorem d1_6 : decode jdk_42_method_54_code 6 = .ok (.invokevirtual 335, 3) := by decide +kernel
theorem d1_9 : decode jdk_42_method_54_code 9 = .ok (.ishr, 1) := by decide +kernel
theorem d1_10 : decode jdk_42_method_54_code 10 = .ok (.ireturn, 1) := by decide +kernel
set_option maxRecDepth 65536 in
set_option maxHeartbeats 40000000 in
theorem rm_len (l : Launch) (Z : State) (a0 : Array Value) (hw : ∀ d ∈ tables_1, d.before a0 Z = true) (ws : List Jvm.Cond) (sa : Addr) (sb : Addr) (sk : ClassId) (zn : Int32) (vl : List Value) (ic : Int32) (h0 : Heap) (n0 : Nat) (Z0 : n0 ≤ h0.size) (F_0 : Exa Z h0 sa "java/lang/String") (F_1 : Fld Z h0 sa "java/lang/String" "coder" "B" (.int (0 : Int32))) (F_2 : Fld Z h0 sa "java/lang/String" "value" "[B" (.ref sb)) (F_3 : Arv Z h0 sb sk .byte zn vl (.int (0 : Int32))) (O0 : Old Z n0 h0) (S_c : Sta Z Z.heap "java/lang/String" "COMPACT_STRINGS" "Z" (.int ic)) (hic : ¬ ic = 0) :
    MetFree l (⟨"java/lang/String", "length", "()I"⟩ : MethodName) (head1 (Jvm.Cond.code (⟨"java/lang/String", "length", "()I"⟩ : MethodName) jdk_42_method_54_code 1 (some (.int)) :: ws) ({ frames := 1, cells := 0, slots := 0, locals := 13 } : Room)) (fun a U => a = #[(.ref sa)] ∧ Z.Warmed39 U.vm ∧ U.heap = h0) (fun _ _ _ _ _ => True) (fun _ U o U' => ∃ v L, o = .returned v ∧ (Q_len Z sa sb sk zn vl ic h0 n0) v U'.heap L ∧ FrameEnd U o U' L ({ frames := 1, cells := 0, slots := 0, locals := 13 } : Room).cells ({ frames := 1, cells := 0, slots := 0, locals := 13 } : Room).slots) := by
  refine MetFree.of_bodySF (plainFor_of_name pn_0) hisR ?_
  intro p e s m args below meth c s₁ Bd hml0 hP hK
  obtain ⟨rfl, hZ, hh⟩ := hP
  have hx := Bd.exec
  have hby := Bd.bytes
  have hW := fun i d (h : tables_1[i]? = some d) => hw d (List.mem_of_getElem? h)
  have hlk : meth.locks = false := BodyLoose.notSynchronized Bd
  have hml : c.maxLocals = 1 := hml0
  have hown : s.vm.findClass "java/lang/String" = some m.cls := findClass_of_methodNamed Bd.named
  have hnm := (name_of_methodNamed Bd.named Bd.method).1
  have X0 : Stand p l e ({ frames := 1, cells := 0, slots := 0, locals := 13 } : Room) s m #[(.ref sa)] below meth c s₁ [] 0 0 := Stand.of_body Bd
  have e0 : s₁.heap = h0 := by rw [← hh, Bd.state]; rfl
  have N0 := Fr.nil n0
  show own_Go p e below s (Q_len Z sa sb sk zn vl ic h0 n0) ({ frames := 1, cells := 0, slots := 0, locals := 13 } : Room).cells ({ frames := 1, cells := 0, slots := 0, locals := 13 } : Room).slots s₁ (entryFrame m #[(.ref sa)] 1)
  refine own_cast (g' := (mkF m 0 #[rv sa] [])) (ef_rm_len m sa) ?_
  refine own_s s₁ (mkF m 1 #[rv sa] [.ref sa]) (fun t k => XS.aloadN X0.here hx rfl (hb hby d1_0) rfl rfl k) ?_
  obtain ⟨T1, X1, e1, st1⟩ := getF X0 hx hZ hown (host := "") (Or.inl (hW 13 _ rfl)) Via.refl e0 F_2 (g := (mkF m 1 #[rv sa] [.ref sa])) rfl rfl (hb hby d1_1)
  refine own_s T1 (mkF m 4 #[rv sa] [.ref sb]) st1 ?_
  obtain ⟨cl2, Ar2, qa2, S2, M2, H2, U2⟩ := id F_3
  have ln2 := len_of S2 M2
  refine own_s T1 (mkF m 5 #[rv sa] [.int zn]) (fun t k => X1.arraylength hx (cell := cl2) (by rw [e1]; exact Ar2.1) (State.isArrayOf_alike hZ.alike Ar2.2.1) (g := (mkF m 4 #[rv sa] [.ref sb])) rfl rfl (hb hby d1_4) t (by rw [ln2]; exact k)) ?_
  refine own_s T1 (mkF m 6 #[rv sa] [.ref sa, .int zn]) (fun t k => XS.aloadN X1.here hx rfl (hb hby d1_5) rfl rfl k) ?_
  obtain ⟨cq6, kq6, q6a, q6b, q6c⟩ := isOf hZ e1 F_0
  obtain ⟨_, _, ⟨T5, L5, k5, n5⟩, -, X5, ⟨Lc5, hQ5, lq5, yq5, zq5⟩, st5⟩ := X1.virtualBack hx (y := (⟨"java/lang/String", "coder", "()B"⟩ : MethodName)) (z := (⟨"java/lang/String", "coder", "()B"⟩ : MethodName)) hown (mvT hZ (hW 14 _ rfl)) (mvT hZ (hW 15 _ rfl)) (notFace_of_selects (args := #[]) (mvT hZ (hW 17 _ rfl))) (mvT hZ (hW 17 _ rfl)) (mvT hZ (hW 16 _ rfl)) (by decide) (backOf (W := 1) (rm_cod l Z a0 hw [] sa ic h0 n0 Z0 F_1 O0 S_c hic) hZ (hW 18 _ rfl) (hW 1 _ rfl) (by decide) (by decide)) q6a q6c (g := (mkF m 6 #[rv sa] [.ref sa, .int zn])) rfl (by rw [hml]; rfl) (Steps.refl _) (argsL := []) (rest := [(.int zn)]) (lenOf pd_0 rfl) rfl (by show 2 * 0 + _ ≤ _; exact Nat.le_of_eq rfl) (hb hby d1_6) (fun _ _ => ⟨rfl, e1, (by decide : 0 + 0 ≤ _), (by decide : 0 + 0 ≤ _)⟩)
  dsimp only [Pt.U, Pt.locs, Pt.cells, Pt.slots] at X5 lq5 yq5 zq5 st5 hQ5
  subst lq5 yq5 zq5
  obtain ⟨rfl, Nq5, eq4⟩ := hQ5
  have N5 := Fr.app N0 Nq5
  refine own_tr (T' := T5) (g' := (mkF m 9 #[rv sa] [.int 0, .int zn])) st5 ?_
  refine own_s T5 (mkF m 10 #[rv sa] [.int (zn >>> (0 : Int32))]) (fun t k => XS.ishr X5.here hx rfl (hb hby d1_9) rfl k) ?_
  refine own_rI X5 hx hlk Bd.returns (hb hby d1_10) ?_ (by decide) (by decide)
  rw [eq4]
  exact ⟨by rw [own_sr0], N5, rfl⟩
def Q_lat (Z : State) (sa : Addr) (ic : Int32) (h0 : Heap) (n0 : Nat) (v : Option Value) (h : Heap) (L : List Loc) : Prop := v = some (.int (1 : Int32)) ∧ Fr n0 L ∧ h = h0
theorem ef_rm_lat (m : MethodId) (x0 : Addr) : entryFrame m #[(.ref x0)] 1 = mkF m 0 #[.val (.ref x0)] [] := by first | (simp [entryFrame, mkF, argsToLocals, Value.category]; done) | rfl | (simp [entryFrame, mkF, argsToLocals, Value.category] <;> rfl)
theorem d5_0 : decode jdk_42_method_154_code 0 = .ok (.getstatic 38, 3) := by decide +kernel
theorem d5_3 : decode jdk_42_method_154_code 3 = .ok (.ifCond .eq 14, 3) := by decide +kernel
theorem d5_6 : decode jdk_42_method_154_code 6 = .ok (.aload_n 0, 1) := by decide +kernel
theorem d5_7 : decode jdk_42_method_154_code 7 = .ok (.getfield 15, 3) := by decide +kernel
theorem d5_10 : decode jdk_42_method_154_code 10 = .ok (.ifCond .ne 7, 3) := by decide +kernel
theorem d5_13 : decode jdk_42_method_154_code 13 = .ok (.iconst 1, 1) := by decide +kernel
theorem d5_14 : decode jdk_42_method_154_code 14 = .ok (.goto 4, 3) := by decide +kernel
theorem d5_18 : decode jdk_42_method_154_code 18 = .ok (.ireturn, 1) := by decide +kernel
set_option maxRecDepth 65536 in
set_option maxHeartbeats 40000000 in
theorem rm_lat (l : Launch) (Z : State) (a0 : Array Value) (hw : ∀ d ∈ tables_1, d.before a0 Z = true) (ws : List Jvm.Cond) (sa : Addr) (ic : Int32) (h0 : Heap) (n0 : Nat) (Z0 : n0 ≤ h0.size) (F_0 : Fld Z h0 sa "java/lang/String" "coder" "B" (.int (0 : Int32))) (O0 : Old Z n0 h0) (S_c : Sta Z Z.heap "java/lang/String" "COMPACT_STRINGS" "Z" (.int ic)) (hic : ¬ ic = 0) :
    MetFree l (⟨"java/lang/String", "isLatin1", "()Z"⟩ : MethodName) (head1 (Jvm.Cond.code (⟨"java/lang/String", "isLatin1", "()Z"⟩ : MethodName) jdk_42_method_154_code 1 (some (.boolean)) :: ws) ({ frames := 0, cells := 0, slots := 0, locals := 0 } : Room)) (fun a U => a = #[(.ref sa)] ∧ Z.Warmed39 U.vm ∧ U.heap = h0) (fun _ _ _ _ _ => True) (fun _ U o U' => ∃ v L, o = .returned v ∧ (Q_lat Z sa ic h0 n0) v U'.heap L ∧ FrameEnd U o U' L ({ frames := 0, cells := 0, slots := 0, locals := 0 } : Room).cells ({ frames := 0, cells := 0, slots := 0, locals := 0 } : Room).slots) := by
  refine MetFree.of_bodySF (plainFor_of_name pn_0) hisR ?_
  intro p e s m args below meth c s₁ Bd hml0 hP hK
  obtain ⟨rfl, hZ, hh⟩ := hP
  have hx := Bd.exec
  have hby := Bd.bytes
  have hW := fun i d (h : tables_1[i]? = some d) => hw d (List.mem_of_getElem? h)
  have hlk : meth.locks = false := BodyLoose.notSynchronized Bd
  have hml : c.maxLocals = 1 := hml0
  have hown : s.vm.findClass "java/lang/String" = some m.cls := findClass_of_methodNamed Bd.named
  have hnm := (name_of_methodNamed Bd.named Bd.method).1
  have X0 : Stand p l e ({ frames := 0, cells := 0, slots := 0, locals := 0 } : Room) s m #[(.ref sa)] below meth c s₁ [] 0 0 := Stand.of_body Bd
  have e0 : s₁.heap = h0 := by rw [← hh, Bd.state]; rfl
  have N0 := Fr.nil n0
  show own_Go p e below s (Q_lat Z sa ic h0 n0) ({ frames := 0, cells := 0, slots := 0, locals := 0 } : Room).cells ({ frames := 0, cells := 0, slots := 0, locals := 0 } : Room).slots s₁ (entryFrame m #[(.ref sa)] 1)
  refine own_cast (g' := (mkF m 0 #[rv sa] [])) (ef_rm_lat m sa) ?_
  obtain ⟨T1, X1, e1, st1⟩ := getS2 X0 hx hZ hown (host := "") (Or.inl (hW 19 _ rfl)) Via.refl e0 (S_c.ext O0.2) (g := (mkF m 0 #[rv sa] [])) rfl (hb hby d5_0)
  refine own_s T1 (mkF m 3 #[rv sa] [.int ic]) st1 ?_
  refine own_s T1 (mkF m 6 #[rv sa] []) (fun t k => XS.ifNo X1.here hx rfl (hb hby d5_3) rfl ((if0 _ _).trans (feq hic).1) k) ?_
  refine own_s T1 (mkF m 7 #[rv sa] [.ref sa]) (fun t k => XS.aloadN X1.here hx rfl (hb hby d5_6) rfl rfl k) ?_
  obtain ⟨T2, X2, e2, st2⟩ := getF X1 hx hZ hown (host := "") (Or.inl (hW 20 _ rfl)) Via.refl e1 F_0 (g := (mkF m 7 #[rv sa] [.ref sa])) rfl rfl (hb hby d5_7)
  refine own_s T2 (mkF m 10 #[rv sa] [.int 0]) st2 ?_
  refine own_s T2 (mkF m 13 #[rv sa] []) (fun t k => XS.ifNo X2.here hx rfl (hb hby d5_10) rfl ((if0 _ _).trans (teq (by decide : ((0 : Int32) = (0 : Int32)))).2) k) ?_
  refine own_s T2 (mkF m 14 #[rv sa] [.int 1]) (fun t k => XS.iconst X2.here hx rfl (hb hby d5_13) k) ?_
  refine own_s T2 (mkF m 18 #[rv sa] [.int 1]) (fun t k => XS.goto X2.here hx rfl (pc0 := 14) (pc' := 18) rfl (hb hby d5_14) (by decide) (by decide) k) ?_
  refine own_rN X2 hx hlk Bd.returns (by simp) (hb hby d5_18) ?_ (by decide) (by decide)
  rw [e2]
  exact ⟨rfl, N0, rfl⟩
def Q_pci (Z : State) (q1 : Int32) (q2 : Int32) (fm : Value) (h0 : Heap) (n0 : Nat) (v : Option Value) (h : Heap) (L : List Loc) : Prop := v = some (.int q1) ∧ Fr n0 L ∧ h = h0
theorem ef_rm_pci (m : MethodId) (x0 : Int32) (x1 : Int32) (x2 : Value) (hx2 : x2.category = 1) : entryFrame m #[(.int x0), (.int x1), x2] 3 = mkF m 0 #[.val (.int x0), .val (.int x1), .val x2] [] := by first | (simp [entryFrame, mkF, argsToLocals, Value.category, hx2]; done) | rfl | (simp [entryFrame, mkF, argsToLocals, Value.category, hx2] <;> rfl) | (cases x2 <;> first | rfl | (simp [Value.category] at hx2))
theorem pn_1 : plainName "jdk/internal/util/Preconditions" = true := by first | (simp [plainName, overriddenIn]; done) | decide +kernel
theorem d8_0 : decode jdk_41_method_11_code 0 = .ok (.iload_n 0, 1) := by decide +kernel
theorem d8_1 : decode jdk_41_method_11_code 1 = .ok (.ifCond .lt 8, 3) := by decide +kernel
theorem d8_4 : decode jdk_41_method_11_code 4 = .ok (.iload_n 0, 1) := by decide +kernel
theorem d8_5 : decode jdk_41_method_11_code 5 = .ok (.iload_n 1, 1) := by decide +kernel
theorem d8_6 : decode jdk_41_method_11_code 6 = .ok (.if_icmp .lt 10, 3) := by decide +kernel
theorem d8_16 : decode jdk_41_method_11_code 16 = .ok (.iload_n 0, 1) := by decide +kernel
theorem d8_17 : decode jdk_41_method_11_code 17 = .ok (.ireturn, 1) := by decide +kernel
set_option maxRecDepth 65536 in
set_option maxHeartbeats 40000000 in
theorem rm_pci (l : Launch) (Z : State) (a0 : Array Value) (hw : ∀ d ∈ tables_1, d.before a0 Z = true) (ws : List Jvm.Cond) (q1 : Int32) (q2 : Int32) (fm : Value) (h0 : Heap) (n0 : Nat) (Z0 : n0 ≤ h0.size) (hfm : fm.category = 1) (hi0 : ¬ q1 < 0) (hi1 : q1 < q2) :
    MetFree l (⟨"jdk/internal/util/Preconditions", "checkIndex", "(IILjava/util/function/BiFunction;)I"⟩ : MethodName) (head1 (Jvm.Cond.code (⟨"jdk/internal/util/Preconditions", "checkIndex", "(IILjava/util/function/BiFunction;)I"⟩ : MethodName) jdk_41_method_11_code 3 (some (.int)) :: ws) ({ frames := 0, cells := 0, slots := 0, locals := 0 } : Room)) (fun a U => a = #[(.int q1), (.int q2), fm] ∧ Z.Warmed39 U.vm ∧ U.heap = h0) (fun _ _ _ _ _ => True) (fun _ U o U' => ∃ v L, o = .returned v ∧ (Q_pci Z q1 q2 fm h0 n0) v U'.heap L ∧ FrameEnd U o U' L ({ frames := 0, cells := 0, slots := 0, locals := 0 } : Room).cells ({ frames := 0, cells := 0, slots := 0, locals := 0 } : Room).slots) := by
  refine MetFree.of_bodySF (plainFor_of_name pn_1) hisR ?_
  intro p e s m args below meth c s₁ Bd hml0 hP hK
  obtain ⟨rfl, hZ, hh⟩ := hP
  have hx := Bd.exec
  have hby := Bd.bytes
  have hW := fun i d (h : tables_1[i]? = some d) => hw d (List.mem_of_getElem? h)
  have hlk : meth.locks = false := BodyLoose.notSynchronized Bd
  have hml : c.maxLocals = 3 := hml0
  have hown : s.vm.findClass "jdk/internal/util/Preconditions" = some m.cls := findClass_of_methodNamed Bd.named
  have hnm := (name_of_methodNamed Bd.named Bd.method).1
  have X0 : Stand p l e ({ frames := 0, cells := 0, slots := 0, locals := 0 } : Room) s m #[(.int q1), (.int q2), fm] below meth c s₁ [] 0 0 := Stand.of_body Bd
  have e0 : s₁.heap = h0 := by rw [← hh, Bd.state]; rfl
  have N0 := Fr.nil n0
  show own_Go p e below s (Q_pci Z q1 q2 fm h0 n0) ({ frames := 0, cells := 0, slots := 0, locals := 0 } : Room).cells ({ frames := 0, cells := 0, slots := 0, locals := 0 } : Room).slots s₁ (entryFrame m #[(.int q1), (.int q2), fm] 3)
  refine own_cast (g' := (mkF m 0 #[iv q1, iv q2, .val fm] [])) (ef_rm_pci m q1 q2 fm hfm) ?_
  refine own_s s₁ (mkF m 1 #[iv q1, iv q2, .val fm] [.int q1]) (fun t k => XS.iloadN X0.here hx rfl (hb hby d8_0) rfl k) ?_
  refine own_s s₁ (mkF m 4 #[iv q1, iv q2, .val fm] []) (fun t k => XS.ifNo X0.here hx rfl (hb hby d8_1) rfl ((if0 _ _).trans (flt hi0).1) k) ?_
  refine own_s s₁ (mkF m 5 #[iv q1, iv q2, .val fm] [.int q1]) (fun t k => XS.iloadN X0.here hx rfl (hb hby d8_4) rfl k) ?_
  refine own_s s₁ (mkF m 6 #[iv q1, iv q2, .val fm] [.int q2, .int q1]) (fun t k => XS.iloadN X0.here hx rfl (hb hby d8_5) rfl k) ?_
  refine own_s s₁ (mkF m 16 #[iv q1, iv q2, .val fm] []) (fun t k => XS.icmpYes X0.here hx rfl (pc0 := 6) (pc' := 16) rfl (hb hby d8_6) rfl (tlt hi1).1 (by decide) (by decide) k) ?_
  refine own_s s₁ (mkF m 17 #[iv q1, iv q2, .val fm] [.int q1]) (fun t k => XS.iloadN X0.here hx rfl (hb hby d8_16) rfl k) ?_
  refine own_rI X0 hx hlk Bd.returns (hb hby d8_17) ?_ (by decide) (by decide)
  rw [e0]
  exact ⟨rfl, N0, rfl⟩
def Q_sci (Z : State) (q1 : Int32) (q2 : Int32) (fm : Value) (h0 : Heap) (n0 : Nat) (v : Option Value) (h : Heap) (L : List Loc) : Prop := v = none ∧ Fr n0 L ∧ h = h0
theorem ef_rm_sci (m : MethodId) (x0 : Int32) (x1 : Int32) : entryFrame m #[(.int x0), (.int x1)] 2 = mkF m 0 #[.val (.int x0), .val (.int x1)] [] := by first | (simp [entryFrame, mkF, argsToLocals, Value.category]; done) | rfl | (simp [entryFrame, mkF, argsToLocals, Value.category] <;> rfl)
theorem d7_0 : decode jdk_42_method_155_code 0 = .ok (.iload_n 0, 1) := by decide +kernel
theorem d7_1 : decode jdk_42_method_155_code 1 = .ok (.iload_n 1, 1) := by decide +kernel
theorem d7_2 : decode jdk_42_method_155_code 2 = .ok (.getstatic 1053, 3) := by decide +kernel
theorem pd_1 : parseMethodDescriptor "(IILjava/util/function/BiFunction;)I" = some ⟨[.int, .int, .object "java/util/function/BiFunction"], some (.int)⟩ := by decide +kernel
theorem d7_5 : decode jdk_42_method_155_code 5 = .ok (.invokestatic 1059, 3) := by decide +kernel
theorem d7_8 : decode jdk_42_method_155_code 8 = .ok (.pop, 1) := by decide +kernel
theorem d7_9 : decode jdk_42_method_155_code 9 = .ok (.return_, 1) := by decide +kernel
set_option maxRecDepth 65536 in
set_option maxHeartbeats 40000000 in
theorem rm_sci (l : Launch) (Z : State) (a0 : Array Value) (hw : ∀ d ∈ tables_1, d.before a0 Z = true) (ws : List Jvm.Cond) (q1 : Int32) (q2 : Int32) (fm : Value) (h0 : Heap) (n0 : Nat) (Z0 : n0 ≤ h0.size) (O0 : Old Z n0 h0) (hfm : fm.category = 1) (S_f : Sta Z Z.heap "jdk/internal/util/Preconditions" "SIOOBE_FORMATTER" "Ljava/util/function/BiFunction;" fm) (hi0 : ¬ q1 < 0) (hi1 : q1 < q2) :
    MetFree l (⟨"java/lang/String", "checkIndex", "(II)V"⟩ : MethodName) (head1 (Jvm.Cond.code (⟨"java/lang/String", "checkIndex", "(II)V"⟩ : MethodName) jdk_42_method_155_code 2 none :: ws) ({ frames := 1, cells := 0, slots := 0, locals := 14 } : Room)) (fun a U => a = #[(.int q1), (.int q2)] ∧ Z.Warmed39 U.vm ∧ U.heap = h0) (fun _ _ _ _ _ => True) (fun _ U o U' => ∃ v L, o = .returned v ∧ (Q_sci Z q1 q2 fm h0 n0) v U'.heap L ∧ FrameEnd U o U' L ({ frames := 1, cells := 0, slots := 0, locals := 14 } : Room).cells ({ frames := 1, cells := 0, slots := 0, locals := 14 } : Room).slots) := by
  refine MetFree.of_bodySF (plainFor_of_name pn_0) hisR ?_
  intro p e s m args below meth c s₁ Bd hml0 hP hK
  obtain ⟨rfl, hZ, hh⟩ := hP
  have hx := Bd.exec
  have hby := Bd.bytes
  have hW := fun i d (h : tables_1[i]? = some d) => hw d (List.mem_of_getElem? h)
  have hlk : meth.locks = false := BodyLoose.notSynchronized Bd
  have hml : c.maxLocals = 2 := hml0
  have hown : s.vm.findClass "java/lang/String" = some m.cls := findClass_of_methodNamed Bd.named
  have hnm := (name_of_methodNamed Bd.named Bd.method).1
  have X0 : Stand p l e ({ frames := 1, cells := 0, slots := 0, locals := 14 } : Room) s m #[(.int q1), (.int q2)] below meth c s₁ [] 0 0 := Stand.of_body Bd
  have e0 : s₁.heap = h0 := by rw [← hh, Bd.state]; rfl
  have N0 := Fr.nil n0
  show own_Go p e below s (Q_sci Z q1 q2 fm h0 n0) ({ frames := 1, cells := 0, slots := 0, locals := 14 } : Room).cells ({ frames := 1, cells := 0, slots := 0, locals := 14 } : Room).slots s₁ (entryFrame m #[(.int q1), (.int q2)] 2)
  refine own_cast (g' := (mkF m 0 #[iv q1, iv q2] [])) (ef_rm_sci m q1 q2) ?_
  refine own_s s₁ (mkF m 1 #[iv q1, iv q2] [.int q1]) (fun t k => XS.iloadN X0.here hx rfl (hb hby d7_0) rfl k) ?_
  refine own_s s₁ (mkF m 2 #[iv q1, iv q2] [.int q2, .int q1]) (fun t k => XS.iloadN X0.here hx rfl (hb hby d7_1) rfl k) ?_
  obtain ⟨T1, X1, e1, st1⟩ := getS2 X0 hx hZ hown (host := "") (Or.inl (hW 44 _ rfl)) Via.refl e0 (S_f.ext O0.2) (g := (mkF m 2 #[iv q1, iv q2] [.int q2, .int q1])) rfl (hb hby d7_2)
  refine own_s T1 (mkF m 5 #[iv q1, iv q2] [fm, .int q2, .int q1]) st1 ?_
  obtain ⟨_, _, ⟨T4, L4, k4, n4⟩, -, X4, ⟨Lc4, hQ4, lq4, yq4, zq4⟩, st4⟩ := Jvm.LawKit.callS X1 hx (y := (⟨"jdk/internal/util/Preconditions", "checkIndex", "(IILjava/util/function/BiFunction;)I"⟩ : MethodName)) hown (mvT hZ (hW 46 _ rfl)) (mvT hZ (hW 47 _ rfl)) (mvT hZ (hW 45 _ rfl)) (mvT hZ (hW 48 _ rfl)) (by decide) (backOf (W := 0) (rm_pci l Z a0 hw [] q1 q2 fm h0 n0 Z0 hfm hi0 hi1) hZ (hW 48 _ rfl) (hW 45 _ rfl) (by decide) (by decide)) (g := (mkF m 5 #[iv q1, iv q2] [fm, .int q2, .int q1])) rfl (by rw [hml]; rfl) (argsL := [(.int q1), (.int q2), fm]) (rest := []) (lenOf pd_1 rfl) rfl (by show 2 * 0 + _ ≤ _; exact Nat.le_of_eq rfl) (hb hby d7_5) (fun _ _ => ⟨rfl, e1, (by decide : 0 + 0 ≤ _), (by decide : 0 + 0 ≤ _)⟩)
  dsimp only [Pt.U, Pt.locs, Pt.cells, Pt.slots] at X4 lq4 yq4 zq4 st4 hQ4
  subst lq4 yq4 zq4
  obtain ⟨rfl, Nq4, eq3⟩ := hQ4
  have N4 := Fr.app N0 Nq4
  refine own_s T4 (mkF m 8 #[iv q1, iv q2] [.int q1]) st4 ?_
  refine own_s T4 (mkF m 9 #[iv q1, iv q2] []) (fun t k => XS.pop X4.here hx rfl (hb hby d7_8) rfl rfl k) ?_
  refine own_rV X4 hx hlk Bd.returns (hb hby d7_9) ?_ (by decide) (by decide)
  rw [eq3]
  exact ⟨rfl, N4, rfl⟩
def Q_lca (Z : State) (sb : Addr) (sk : ClassId) (zn : Int32) (vl : List Value) (q1 : Int32) (fm : Value) (h0 : Heap) (n0 : Nat) (v : Option Value) (h : Heap) (L : List Loc) : Prop := v = some (.int (nar .char (((own_at vl q1) &&& (255 : Int32)).toUInt32.toUInt16.toUInt32.toInt32))) ∧ Fr n0 L ∧ h = h0
theorem ef_rm_lca (m : MethodId) (x0 : Addr) (x1 : Int32) : entryFrame m #[(.ref x0), (.int x1)] 2 = mkF m 0 #[.val (.ref x0), .val (.int x1)] [] := by first | (simp [entryFrame, mkF, argsToLocals, Value.category]; done) | rfl | (simp [entryFrame, mkF, argsToLocals, Value.category] <;> rfl)
theorem pn_2 : plainName "java/lang/StringLatin1" = true := by first | (simp [plainName, overriddenIn]; done) | decide +kernel
theorem d6_0 : decode jdk_43_method_2_code 0 = .ok (.iload_n 1, 1) := by decide +kernel
theorem d6_1 : decode jdk_43_method_2_code 1 = .ok (.aload_n 0, 1) := by decide +kernel
theorem d6_2 : decode jdk_43_method_2_code 2 = .ok (.arraylength, 1) := by decide +kernel
theorem pd_2 : parseMethodDescriptor "(II)V" = some ⟨[.int, .int], none⟩ := by decide +kernel
theorem d6_3 : decode jdk_43_method_2_code 3 = .ok (.invokestatic 9, 3) := by decide +kernel
theorem d6_6 : decode jdk_43_method_2_code 6 = .ok (.aload_n 0, 1) := by decide +kernel
theorem d6_7 : decode jdk_43_method_2_code 7 = .ok (.iload_n 1, 1) := by decide +kernel
theorem d6_8 : decode jdk_43_method_2_code 8 = .ok (.baload, 1) := by decide +kernel
theorem d6_9 : decode jdk_43_method_2_code 9 = .ok (.sipush 255, 3) := by decide +kernel
theorem d6_12 : decode jdk_43_method_2_code 12 = .ok (.iand, 1) := by decide +kernel
theorem d6_13 : decode jdk_43_method_2_code 13 = .ok (.i2c, 1) := by decide +kernel
theorem d6_14 : decode jdk_43_method_2_code 14 = .ok (.ireturn, 1) := by decide +kernel
set_option maxRecDepth 65536 in
set_option maxHeartbeats 40000000 in
theorem rm_lca (l : Launch) (Z : State) (a0 : Array Value) (hw : ∀ d ∈ tables_1, d.before a0 Z = true) (ws : List Jvm.Cond) (sb : Addr) (sk : ClassId) (zn : Int32) (vl : List Value) (q1 : Int32) (fm : Value) (h0 : Heap) (n0 : Nat) (Z0 : n0 ≤ h0.size) (F_0 : Arv Z h0 sb sk .byte zn vl (.int (0 : Int32))) (O0 : Old Z n0 h0) (hfm : fm.category = 1) (S_f : Sta Z Z.heap "jdk/internal/util/Preconditions" "SIOOBE_FORMATTER" "Ljava/util/function/BiFunction;" fm) (htf : own_tf zn vl) (hi0 : ¬ q1 < 0) (hi1 : q1 < zn) :
    MetFree l (⟨"java/lang/StringLatin1", "charAt", "([BI)C"⟩ : MethodName) (head1 (Jvm.Cond.code (⟨"java/lang/StringLatin1", "charAt", "([BI)C"⟩ : MethodName) jdk_43_method_2_code 2 (some (.char)) :: ws) ({ frames := 2, cells := 0, slots := 0, locals := 27 } : Room)) (fun a U => a = #[(.ref sb), (.int q1)] ∧ Z.Warmed39 U.vm ∧ U.heap = h0) (fun _ _ _ _ _ => True) (fun _ U o U' => ∃ v L, o = .returned v ∧ (Q_lca Z sb sk zn vl q1 fm h0 n0) v U'.heap L ∧ FrameEnd U o U' L ({ frames := 2, cells := 0, slots := 0, locals := 27 } : Room).cells ({ frames := 2, cells := 0, slots := 0, locals := 27 } : Room).slots) := by
  refine MetFree.of_bodySF (plainFor_of_name pn_2) hisR ?_
  intro p e s m args below meth c s₁ Bd hml0 hP hK
  obtain ⟨rfl, hZ, hh⟩ := hP
  have hx := Bd.exec
  have hby := Bd.bytes
  have hW := fun i d (h : tables_1[i]? = some d) => hw d (List.mem_of_getElem? h)
  have hlk : meth.locks = false := BodyLoose.notSynchronized Bd
  have hml : c.maxLocals = 2 := hml0
  have hown : s.vm.findClass "java/lang/StringLatin1" = some m.cls := findClass_of_methodNamed Bd.named
  have hnm := (name_of_methodNamed Bd.named Bd.method).1
  have X0 : Stand p l e ({ frames := 2, cells := 0, slots := 0, locals := 27 } : Room) s m #[(.ref sb), (.int q1)] below meth c s₁ [] 0 0 := Stand.of_body Bd
  have e0 : s₁.heap = h0 := by rw [← hh, Bd.state]; rfl
  have N0 := Fr.nil n0
  show own_Go p e below s (Q_lca Z sb sk zn vl q1 fm h0 n0) ({ frames := 2, cells := 0, slots := 0, locals := 27 } : Room).cells ({ frames := 2, cells := 0, slots := 0, locals := 27 } : Room).slots s₁ (entryFrame m #[(.ref sb), (.int q1)] 2)
  refine own_cast (g' := (mkF m 0 #[rv sb, iv q1] [])) (ef_rm_lca m sb q1) ?_
  refine own_s s₁ (mkF m 1 #[rv sb, iv q1] [.int q1]) (fun t k => XS.iloadN X0.here hx rfl (hb hby d6_0) rfl k) ?_
  refine own_s s₁ (mkF m 2 #[rv sb, iv q1] [.ref sb, .int q1]) (fun t k => XS.aloadN X0.here hx rfl (hb hby d6_1) rfl rfl k) ?_
  obtain ⟨cl1, Ar1, qa1, S1, M1, H1, U1⟩ := id F_0
  have ln1 := len_of S1 M1
  refine own_s s₁ (mkF m 3 #[rv sb, iv q1] [.int zn, .int q1]) (fun t k => X0.arraylength hx (cell := cl1) (by rw [e0]; exact Ar1.1) (State.isArrayOf_alike hZ.alike Ar1.2.1) (g := (mkF m 2 #[rv sb, iv q1] [.ref sb, .int q1])) rfl rfl (hb hby d6_2) t (by rw [ln1]; exact k)) ?_
  obtain ⟨_, _, ⟨T4, L4, k4, n4⟩, -, X4, ⟨Lc4, hQ4, lq4, yq4, zq4⟩, st4⟩ := Jvm.LawKit.callS X0 hx (y := (⟨"java/lang/String", "checkIndex", "(II)V"⟩ : MethodName)) hown (mvT hZ (hW 41 _ rfl)) (mvT hZ (hW 42 _ rfl)) (mvT hZ (hW 1 _ rfl)) (mvT hZ (hW 43 _ rfl)) (by decide) (backOf (W := 0) (rm_sci l Z a0 hw [] q1 zn fm h0 n0 Z0 O0 hfm S_f hi0 hi1) hZ (hW 43 _ rfl) (hW 1 _ rfl) (by decide) (by decide)) (g := (mkF m 3 #[rv sb, iv q1] [.int zn, .int q1])) rfl (by rw [hml]; rfl) (argsL := [(.int q1), (.int zn)]) (rest := []) (lenOf pd_2 rfl) rfl (by show 2 * 0 + _ ≤ _; exact Nat.le_of_eq rfl) (hb hby d6_3) (fun _ _ => ⟨rfl, e0, (by decide : 0 + 0 ≤ _), (by decide : 0 + 0 ≤ _)⟩)
  dsimp only [Pt.U, Pt.locs, Pt.cells, Pt.slots] at X4 lq4 yq4 zq4 st4 hQ4
  subst lq4 yq4 zq4
  obtain ⟨rfl, Nq4, eq3⟩ := hQ4
  have N4 := Fr.app N0 Nq4
  refine own_s T4 (mkF m 6 #[rv sb, iv q1] []) st4 ?_
  refine own_s T4 (mkF m 7 #[rv sb, iv q1] [.ref sb]) (fun t k => XS.aloadN X4.here hx rfl (hb hby d6_6) rfl rfl k) ?_
  refine own_s T4 (mkF m 8 #[rv sb, iv q1] [.int q1, .ref sb]) (fun t k => XS.iloadN X4.here hx rfl (hb hby d6_7) rfl k) ?_
  obtain ⟨cl5, Ar5, qa5, S5, M5, H5, U5⟩ := id F_0
  have hi5 := inb_of S5 (j := q1) ⟨hi0, hi1⟩
  have hat5 := H5.at hi5 (v := (.int (own_at vl q1))) (own_atV htf q1)
  refine own_s T4 (mkF m 9 #[rv sb, iv q1] [.int (own_at vl q1)]) (fun t k => X4.baloadBytes hx (j := q1) (v := (.int (own_at vl q1))) (by rw [eq3]; exact Ar5.1) (State.isArrayOf_alike hZ.alike Ar5.2.1) Ar5.2.2 hi5 hat5 (g := (mkF m 8 #[rv sb, iv q1] [.int q1, .ref sb])) rfl rfl (hb hby d6_8) t k) ?_
  refine own_s T4 (mkF m 12 #[rv sb, iv q1] [.int 255, .int (own_at vl q1)]) (fun t k => XS.sipush X4.here hx rfl (hb hby d6_9) k) ?_
  refine own_s T4 (mkF m 13 #[rv sb, iv q1] [.int ((own_at vl q1) &&& (255 : Int32))]) (fun t k => XS.iand X4.here hx rfl (hb hby d6_12) rfl k) ?_
  refine own_s T4 (mkF m 14 #[rv sb, iv q1] [.int (((own_at vl q1) &&& (255 : Int32)).toUInt32.toUInt16.toUInt32.toInt32)]) (fun t k => XS.i2c X4.here hx rfl (hb hby d6_13) rfl k) ?_
  refine own_rN X4 hx hlk Bd.returns (by simp) (hb hby d6_14) ?_ (by decide) (by decide)
  rw [eq3]
  exact ⟨rfl, N4, rfl⟩
def Q_sca (Z : State) (sa : Addr) (sb : Addr) (sk : ClassId) (zn : Int32) (vl : List Value) (q1 : Int32) (fm : Value) (ic : Int32) (h0 : Heap) (n0 : Nat) (v : Option Value) (h : Heap) (L : List Loc) : Prop := v = some (.int (nar .char (nar .char (((own_at vl q1) &&& (255 : Int32)).toUInt32.toUInt16.toUInt32.toInt32)))) ∧ Fr n0 L ∧ h = h0
theorem ef_rm_sca (m : MethodId) (x0 : Addr) (x1 : Int32) : entryFrame m #[(.ref x0), (.int x1)] 2 = mkF m 0 #[.val (.ref x0), .val (.int x1)] [] := by first | (simp [entryFrame, mkF, argsToLocals, Value.category]; done) | rfl | (simp [entryFrame, mkF, argsToLocals, Value.category] <;> rfl)
theorem d4_0 : decode jdk_42_method_56_code 0 = .ok (.aload_n 0, 1) := by decide +kernel
theorem pd_3 : parseMethodDescriptor "()Z" = some ⟨[], some (.boolean)⟩ := by decide +kernel
theorem d4_1 : decode jdk_42_method_56_code 1 = .ok (.invokevirtual 492, 3) := by decide +kernel
theorem d4_4 : decode jdk_42_method_56_code 4 = .ok (.ifCond .eq 12, 3) := by decide +kernel
theorem d4_7 : decode jdk_42_method_56_code 7 = .ok (.aload_n 0, 1) := by decide +kernel
theorem d4_8 : decode jdk_42_method_56_code 8 = .ok (.getfield 9, 3) := by decide +kernel
theorem d4_11 : decode jdk_42_method_56_code 11 = .ok (.iload_n 1, 1) := by decide +kernel
theorem pd_4 : parseMethodDescriptor "([BI)C" = some ⟨[.array .byte, .int], some (.char)⟩ := by decide +kernel
theorem d4_12 : decode jdk_42_method_56_code 12 = .ok (.invokestatic 495, 3) := by decide +kernel
theorem d4_15 : decode jdk_42_method_56_code 15 = .ok (.ireturn, 1) := by decide +kernel
set_option maxRecDepth 65536 in
set_option maxHeartbeats 40000000 in
theorem rm_sca (l : Launch) (Z : State) (a0 : Array Value) (hw : ∀ d ∈ tables_1, d.before a0 Z = true) (ws : List Jvm.Cond) (sa : Addr) (sb : Addr) (sk : ClassId) (zn : Int32) (vl : List Value) (q1 : Int32) (fm : Value) (ic : Int32) (h0 : Heap) (n0 : Nat) (Z0 : n0 ≤ h0.size) (F_0 : Exa Z h0 sa "java/lang/String") (F_1 : Fld Z h0 sa "java/lang/String" "coder" "B" (.int (0 : Int32))) (F_2 : Fld Z h0 sa "java/lang/String" "value" "[B" (.ref sb)) (F_3 : Arv Z h0 sb sk .byte zn vl (.int (0 : Int32))) (O0 : Old Z n0 h0) (hfm : fm.category = 1) (S_f : Sta Z Z.heap "jdk/internal/util/Preconditions" "SIOOBE_FORMATTER" "Ljava/util/function/BiFunction;" fm) (htf : own_tf zn vl) (hi0 : ¬ q1 < 0) (hi1 : q1 < zn) (S_c : Sta Z Z.heap "java/lang/String" "COMPACT_STRINGS" "Z" (.int ic)) (hic : ¬ ic = 0) :
    MetFree l (⟨"java/lang/String", "charAt", "(I)C"⟩ : MethodName) (head1 (Jvm.Cond.code (⟨"java/lang/String", "charAt", "(I)C"⟩ : MethodName) jdk_42_method_56_code 2 (some (.char)) :: ws) ({ frames := 3, cells := 0, slots := 0, locals := 40 } : Room)) (fun a U => a = #[(.ref sa), (.int q1)] ∧ Z.Warmed39 U.vm ∧ U.heap = h0) (fun _ _ _ _ _ => True) (fun _ U o U' => ∃ v L, o = .returned v ∧ (Q_sca Z sa sb sk zn vl q1 fm ic h0 n0) v U'.heap L ∧ FrameEnd U o U' L ({ frames := 3, cells := 0, slots := 0, locals := 40 } : Room).cells ({ frames := 3, cells := 0, slots := 0, locals := 40 } : Room).slots) := by
  refine MetFree.of_bodySF (plainFor_of_name pn_0) hisR ?_
  intro p e s m args below meth c s₁ Bd hml0 hP hK
  obtain ⟨rfl, hZ, hh⟩ := hP
  have hx := Bd.exec
  have hby := Bd.bytes
  have hW := fun i d (h : tables_1[i]? = some d) => hw d (List.mem_of_getElem? h)
  have hlk : meth.locks = false := BodyLoose.notSynchronized Bd
  have hml : c.maxLocals = 2 := hml0
  have hown : s.vm.findClass "java/lang/String" = some m.cls := findClass_of_methodNamed Bd.named
  have hnm := (name_of_methodNamed Bd.named Bd.method).1
  have X0 : Stand p l e ({ frames := 3, cells := 0, slots := 0, locals := 40 } : Room) s m #[(.ref sa), (.int q1)] below meth c s₁ [] 0 0 := Stand.of_body Bd
  have e0 : s₁.heap = h0 := by rw [← hh, Bd.state]; rfl
  have N0 := Fr.nil n0
  show own_Go p e below s (Q_sca Z sa sb sk zn vl q1 fm ic h0 n0) ({ frames := 3, cells := 0, slots := 0, locals := 40 } : Room).cells ({ frames := 3, cells := 0, slots := 0, locals := 40 } : Room).slots s₁ (entryFrame m #[(.ref sa), (.int q1)] 2)
  refine own_cast (g' := (mkF m 0 #[rv sa, iv q1] [])) (ef_rm_sca m sa q1) ?_
  refine own_s s₁ (mkF m 1 #[rv sa, iv q1] [.ref sa]) (fun t k => XS.aloadN X0.here hx rfl (hb hby d4_0) rfl rfl k) ?_
  obtain ⟨cq4, kq4, q4a, q4b, q4c⟩ := isOf hZ e0 F_0
  obtain ⟨_, _, ⟨T3, L3, k3, n3⟩, -, X3, ⟨Lc3, hQ3, lq3, yq3, zq3⟩, st3⟩ := X0.virtualBack hx (y := (⟨"java/lang/String", "isLatin1", "()Z"⟩ : MethodName)) (z := (⟨"java/lang/String", "isLatin1", "()Z"⟩ : MethodName)) hown (mvT hZ (hW 32 _ rfl)) (mvT hZ (hW 33 _ rfl)) (notFace_of_selects (args := #[]) (mvT hZ (hW 35 _ rfl))) (mvT hZ (hW 35 _ rfl)) (mvT hZ (hW 34 _ rfl)) (by decide) (backOf (W := 0) (rm_lat l Z a0 hw [] sa ic h0 n0 Z0 F_1 O0 S_c hic) hZ (hW 36 _ rfl) (hW 1 _ rfl) (by decide) (by decide)) q4a q4c (g := (mkF m 1 #[rv sa, iv q1] [.ref sa])) rfl (by rw [hml]; rfl) (Steps.refl _) (argsL := []) (rest := []) (lenOf pd_3 rfl) rfl (by show 2 * 0 + _ ≤ _; exact Nat.le_of_eq rfl) (hb hby d4_1) (fun _ _ => ⟨rfl, e0, (by decide : 0 + 0 ≤ _), (by decide : 0 + 0 ≤ _)⟩)
  dsimp only [Pt.U, Pt.locs, Pt.cells, Pt.slots] at X3 lq3 yq3 zq3 st3 hQ3
  subst lq3 yq3 zq3
  obtain ⟨rfl, Nq3, eq2⟩ := hQ3
  have N3 := Fr.app N0 Nq3
  refine own_tr (T' := T3) (g' := (mkF m 4 #[rv sa, iv q1] [.int 1])) st3 ?_
  refine own_s T3 (mkF m 7 #[rv sa, iv q1] []) (fun t k => XS.ifNo X3.here hx rfl (hb hby d4_4) rfl ((if0 _ _).trans (feq (by decide : ¬ ((1 : Int32) = (0 : Int32)))).1) k) ?_
  refine own_s T3 (mkF m 8 #[rv sa, iv q1] [.ref sa]) (fun t k => XS.aloadN X3.here hx rfl (hb hby d4_7) rfl rfl k) ?_
  obtain ⟨T5, X5, e5, st5⟩ := getF X3 hx hZ hown (host := "") (Or.inl (hW 13 _ rfl)) Via.refl eq2 F_2 (g := (mkF m 8 #[rv sa, iv q1] [.ref sa])) rfl rfl (hb hby d4_8)
  refine own_s T5 (mkF m 11 #[rv sa, iv q1] [.ref sb]) st5 ?_
  refine own_s T5 (mkF m 12 #[rv sa, iv q1] [.int q1, .ref sb]) (fun t k => XS.iloadN X5.here hx rfl (hb hby d4_11) rfl k) ?_
  obtain ⟨_, _, ⟨T8, L8, k8, n8⟩, -, X8, ⟨Lc8, hQ8, lq8, yq8, zq8⟩, st8⟩ := Jvm.LawKit.callS X5 hx (y := (⟨"java/lang/StringLatin1", "charAt", "([BI)C"⟩ : MethodName)) hown (mvT hZ (hW 37 _ rfl)) (mvT hZ (hW 38 _ rfl)) (mvT hZ (hW 39 _ rfl)) (mvT hZ (hW 40 _ rfl)) (by decide) (backOf (W := 0) (rm_lca l Z a0 hw [] sb sk zn vl q1 fm h0 n0 Z0 F_3 O0 hfm S_f htf hi0 hi1) hZ (hW 40 _ rfl) (hW 39 _ rfl) (by decide) (by decide)) (g := (mkF m 12 #[rv sa, iv q1] [.int q1, .ref sb])) rfl (by rw [hml]; rfl) (argsL := [(.ref sb), (.int q1)]) (rest := []) (lenOf pd_4 rfl) rfl (by show 2 * 0 + _ ≤ _; exact Nat.le_of_eq rfl) (hb hby d4_12) (fun _ _ => ⟨rfl, e5, (by decide : 0 + 0 ≤ _), (by decide : 0 + 0 ≤ _)⟩)
  dsimp only [Pt.U, Pt.locs, Pt.cells, Pt.slots] at X8 lq8 yq8 zq8 st8 hQ8
  subst lq8 yq8 zq8
  obtain ⟨rfl, Nq8, eq7⟩ := hQ8
  have N8 := Fr.app N3 Nq8
  refine own_s T8 (mkF m 15 #[rv sa, iv q1] [.int (nar .char (((own_at vl q1) &&& (255 : Int32)).toUInt32.toUInt16.toUInt32.toInt32))]) st8 ?_
  refine own_rN X8 hx hlk Bd.returns (by simp) (hb hby d4_15) ?_ (by decide) (by decide)
  rw [eq7]
  exact ⟨rfl, N8, rfl⟩
def own_dr (d : Int64) (q1 : Int32) : Int32 := ((((d.toUInt64 >>> ((((8 : Int32) * q1)) &&& 0x3f).toInt64.toUInt64).toInt64) &&& (255 : Int64)).toInt32).toUInt32.toUInt16.toUInt32.toInt32
def own_ccA (vl : List Value) (zn md q1 : Int32) (d : Int64) : Int32 := if q1 < zn then (nar .char (nar .char (((own_at vl q1) &&& (255 : Int32)).toUInt32.toUInt16.toUInt32.toInt32))) else own_dr d q1
def own_chv (vl : List Value) (zn md q1 : Int32) (d : Int64) : Int32 := if ((((md.toUInt32 >>> (5 : UInt32)).toInt32) &&& (1 : Int32)) = 0) then own_ccA vl zn md q1 d else if (((md.toUInt32 >>> (6 : UInt32)).toInt32) &&& (7 : Int32)) = q1 then own_dr d q1 else own_ccA vl zn md q1 d
def Q_ch (Z : State) (sa : Addr) (sb : Addr) (sk : ClassId) (zn : Int32) (vl : List Value) (q1 : Int32) (md : Int32) (d : Int64) (fm : Value) (ic : Int32) (h0 : Heap) (n0 : Nat) (v : Option Value) (h : Heap) (L : List Loc) : Prop := v = some (.int (nar .char (own_chv vl zn md q1 d))) ∧ Fr n0 L ∧ h = h0
theorem ef_rm_ch (m : MethodId) (x0 : Int32) (x1 : Addr) (x2 : Int32) (x3 : Int64) : entryFrame m #[(.int x0), (.ref x1), (.int x2), (.long x3)] 7 = mkF m 0 #[.val (.int x0), .val (.ref x1), .val (.int x2), .val (.long x3), .second, .unset, .unset] [] := by first | (simp [entryFrame, mkF, argsToLocals, Value.category]; done) | rfl | (simp [entryFrame, mkF, argsToLocals, Value.category] <;> rfl)
theorem pn_3 : plainName "com/example/umpire/umpire/xsts/ValidityOfPinLaw" = true := by first | (simp [plainName, overriddenIn]; done) | decide +kernel
theorem d3_0 : decode method_2_code 0 = .ok (.lload_n 3, 1) := by decide +kernel
theorem d3_1 : decode method_2_code 1 = .ok (.bipush 8, 2) := by decide +kernel
theorem d3_3 : decode method_2_code 3 = .ok (.iload_n 0, 1) := by decide +kernel
theorem d3_4 : decode method_2_code 4 = .ok (.imul, 1) := by decide +kernel
theorem d3_5 : decode method_2_code 5 = .ok (.lushr, 1) := by decide +kernel
theorem d3_6 : decode method_2_code 6 = .ok (.ldc2_w 7, 3) := by decide +kernel
theorem d3_9 : decode method_2_code 9 = .ok (.land, 1) := by decide +kernel
theorem d3_10 : decode method_2_code 10 = .ok (.l2i, 1) := by decide +kernel
theorem d3_11 : decode method_2_code 11 = .ok (.i2c, 1) := by decide +kernel
theorem d3_12 : decode method_2_code 12 = .ok (.istore 5, 2) := by decide +kernel
theorem d3_14 : decode method_2_code 14 = .ok (.iload_n 2, 1) := by decide +kernel
theorem d3_15 : decode method_2_code 15 = .ok (.iconst 5, 1) := by decide +kernel
theorem d3_16 : decode method_2_code 16 = .ok (.iushr, 1) := by decide +kernel
theorem d3_17 : decode method_2_code 17 = .ok (.iconst 1, 1) := by decide +kernel
theorem d3_18 : decode method_2_code 18 = .ok (.iand, 1) := by decide +kernel
theorem d3_19 : decode method_2_code 19 = .ok (.ifCond .eq 18, 3) := by decide +kernel
theorem d3_37 : decode method_2_code 37 = .ok (.iconst 0, 1) := by decide +kernel
theorem d3_38 : decode method_2_code 38 = .ok (.istore 6, 2) := by decide +kernel
theorem d3_40 : decode method_2_code 40 = .ok (.iload 6, 2) := by decide +kernel
theorem d3_42 : decode method_2_code 42 = .ok (.ifCond .ne 17, 3) := by decide +kernel
theorem d3_45 : decode method_2_code 45 = .ok (.iload_n 0, 1) := by decide +kernel
theorem d3_46 : decode method_2_code 46 = .ok (.aload_n 1, 1) := by decide +kernel
theorem pd_5 : parseMethodDescriptor "()I" = some ⟨[], some (.int)⟩ := by decide +kernel
theorem d3_47 : decode method_2_code 47 = .ok (.invokevirtual 9, 3) := by decide +kernel
theorem d3_50 : decode method_2_code 50 = .ok (.if_icmp .ge 9, 3) := by decide +kernel
theorem d3_53 : decode method_2_code 53 = .ok (.aload_n 1, 1) := by decide +kernel
theorem d3_54 : decode method_2_code 54 = .ok (.iload_n 0, 1) := by decide +kernel
theorem pd_6 : parseMethodDescriptor "(I)C" = some ⟨[.int], some (.char)⟩ := by decide +kernel
theorem d3_55 : decode method_2_code 55 = .ok (.invokevirtual 15, 3) := by decide +kernel
theorem d3_58 : decode method_2_code 58 = .ok (.ireturn, 1) := by decide +kernel
theorem d3_59 : decode method_2_code 59 = .ok (.iload 5, 2) := by decide +kernel
theorem d3_61 : decode method_2_code 61 = .ok (.ireturn, 1) := by decide +kernel
theorem d3_22 : decode method_2_code 22 = .ok (.iload_n 2, 1) := by decide +kernel
theorem d3_23 : decode method_2_code 23 = .ok (.bipush 6, 2) := by decide +kernel
theorem d3_25 : decode method_2_code 25 = .ok (.iushr, 1) := by decide +kernel
theorem d3_26 : decode method_2_code 26 = .ok (.bipush 7, 2) := by decide +kernel
theorem d3_28 : decode method_2_code 28 = .ok (.iand, 1) := by decide +kernel
theorem d3_29 : decode method_2_code 29 = .ok (.iload_n 0, 1) := by decide +kernel
theorem d3_30 : decode method_2_code 30 = .ok (.if_icmp .ne 7, 3) := by decide +kernel
theorem d3_33 : decode method_2_code 33 = .ok (.iconst 1, 1) := by decide +kernel
theorem d3_34 : decode method_2_code 34 = .ok (.goto 4, 3) := by decide +kernel
set_option maxRecDepth 65536 in
set_option maxHeartbeats 40000000 in
theorem rm_ch (l : Launch) (Z : State) (a0 : Array Value) (hw : ∀ d ∈ tables_1, d.before a0 Z = true) (ws : List Jvm.Cond) (sa : Addr) (sb : Addr) (sk : ClassId) (zn : Int32) (vl : List Value) (q1 : Int32) (md : Int32) (d : Int64) (fm : Value) (ic : Int32) (h0 : Heap) (n0 : Nat) (Z0 : n0 ≤ h0.size) (F_0 : Exa Z h0 sa "java/lang/String") (F_1 : Fld Z h0 sa "java/lang/String" "coder" "B" (.int (0 : Int32))) (F_2 : Fld Z h0 sa "java/lang/String" "value" "[B" (.ref sb)) (F_3 : Arv Z h0 sb sk .byte zn vl (.int (0 : Int32))) (O0 : Old Z n0 h0) (hfm : fm.category = 1) (S_f : Sta Z Z.heap "jdk/internal/util/Preconditions" "SIOOBE_FORMATTER" "Ljava/util/function/BiFunction;" fm) (htf : own_tf zn vl) (hi0 : ¬ q1 < 0) (S_c : Sta Z Z.heap "java/lang/String" "COMPACT_STRINGS" "Z" (.int ic)) (hic : ¬ ic = 0) :
    MetFree l (⟨"com/example/umpire/umpire/xsts/ValidityOfPinLaw", "ch", "(ILjava/lang/String;IJ)C"⟩ : MethodName) (head1 (Jvm.Cond.code (⟨"com/example/umpire/umpire/xsts/ValidityOfPinLaw", "ch", "(ILjava/lang/String;IJ)C"⟩ : MethodName) method_2_code 7 (some (.char)) :: ws) ({ frames := 4, cells := 0, slots := 0, locals := 53 } : Room)) (fun a U => a = #[(.int q1), (.ref sa), (.int md), (.long d)] ∧ Z.Warmed39 U.vm ∧ U.heap = h0) (fun _ _ _ _ _ => True) (fun _ U o U' => ∃ v L, o = .returned v ∧ (Q_ch Z sa sb sk zn vl q1 md d fm ic h0 n0) v U'.heap L ∧ FrameEnd U o U' L ({ frames := 4, cells := 0, slots := 0, locals := 53 } : Room).cells ({ frames := 4, cells := 0, slots := 0, locals := 53 } : Room).slots) := by
  refine MetFree.of_bodySF (plainFor_of_name pn_3) hisR ?_
  intro p e s m args below meth c s₁ Bd hml0 hP hK
  obtain ⟨rfl, hZ, hh⟩ := hP
  have hx := Bd.exec
  have hby := Bd.bytes
  have hW := fun i d (h : tables_1[i]? = some d) => hw d (List.mem_of_getElem? h)
  have hlk : meth.locks = false := BodyLoose.notSynchronized Bd
  have hml : c.maxLocals = 7 := hml0
  have hown : s.vm.findClass "com/example/umpire/umpire/xsts/ValidityOfPinLaw" = some m.cls := findClass_of_methodNamed Bd.named
  have hnm := (name_of_methodNamed Bd.named Bd.method).1
  have X0 : Stand p l e ({ frames := 4, cells := 0, slots := 0, locals := 53 } : Room) s m #[(.int q1), (.ref sa), (.int md), (.long d)] below meth c s₁ [] 0 0 := Stand.of_body Bd
  have e0 : s₁.heap = h0 := by rw [← hh, Bd.state]; rfl
  have N0 := Fr.nil n0
  show own_Go p e below s (Q_ch Z sa sb sk zn vl q1 md d fm ic h0 n0) ({ frames := 4, cells := 0, slots := 0, locals := 53 } : Room).cells ({ frames := 4, cells := 0, slots := 0, locals := 53 } : Room).slots s₁ (entryFrame m #[(.int q1), (.ref sa), (.int md), (.long d)] 7)
  refine own_cast (g' := (mkF m 0 #[iv q1, rv sa, iv md, own_j d, s_, u_, u_] [])) (ef_rm_ch m q1 sa md d) ?_
  refine own_s s₁ (mkF m 1 #[iv q1, rv sa, iv md, own_j d, s_, u_, u_] [.long d]) (fun t k => XS.lloadN X0.here hx rfl (hb hby d3_0) rfl k) ?_
  refine own_s s₁ (mkF m 3 #[iv q1, rv sa, iv md, own_j d, s_, u_, u_] [.int 8, .long d]) (fun t k => XS.bipush X0.here hx rfl (hb hby d3_1) k) ?_
  refine own_s s₁ (mkF m 4 #[iv q1, rv sa, iv md, own_j d, s_, u_, u_] [.int q1, .int 8, .long d]) (fun t k => XS.iloadN X0.here hx rfl (hb hby d3_3) rfl k) ?_
  refine own_s s₁ (mkF m 5 #[iv q1, rv sa, iv md, own_j d, s_, u_, u_] [.int ((8 : Int32) * q1), .long d]) (fun t k => XS.imul X0.here hx rfl (hb hby d3_4) rfl k) ?_
  refine own_s s₁ (mkF m 6 #[iv q1, rv sa, iv md, own_j d, s_, u_, u_] [.long ((d.toUInt64 >>> (((8 : Int32) * q1) &&& 0x3f).toInt64.toUInt64).toInt64)]) (fun t k => XS.lushr X0.here hx rfl (hb hby d3_5) rfl k) ?_
  refine own_s s₁ (mkF m 9 #[iv q1, rv sa, iv md, own_j d, s_, u_, u_] [.long 255, .long ((d.toUInt64 >>> (((8 : Int32) * q1) &&& 0x3f).toInt64.toUInt64).toInt64)]) (X0.ldc2Long hx hown (mvT hZ (hW 26 _ rfl)) (g := (mkF m 6 #[iv q1, rv sa, iv md, own_j d, s_, u_, u_] [.long ((d.toUInt64 >>> (((8 : Int32) * q1) &&& 0x3f).toInt64.toUInt64).toInt64)])) rfl (hb hby d3_6)) ?_
  refine own_s s₁ (mkF m 10 #[iv q1, rv sa, iv md, own_j d, s_, u_, u_] [.long (((d.toUInt64 >>> (((8 : Int32) * q1) &&& 0x3f).toInt64.toUInt64).toInt64) &&& (255 : Int64))]) (fun t k => XS.land X0.here hx rfl (hb hby d3_9) rfl k) ?_
  refine own_s s₁ (mkF m 11 #[iv q1, rv sa, iv md, own_j d, s_, u_, u_] [.int ((((d.toUInt64 >>> (((8 : Int32) * q1) &&& 0x3f).toInt64.toUInt64).toInt64) &&& (255 : Int64)).toInt32)]) (fun t k => XS.l2i X0.here hx rfl (hb hby d3_10) rfl k) ?_
  refine own_s s₁ (mkF m 12 #[iv q1, rv sa, iv md, own_j d, s_, u_, u_] [.int (((((d.toUInt64 >>> (((8 : Int32) * q1) &&& 0x3f).toInt64.toUInt64).toInt64) &&& (255 : Int64)).toInt32).toUInt32.toUInt16.toUInt32.toInt32)]) (fun t k => XS.i2c X0.here hx rfl (hb hby d3_11) rfl k) ?_
  generalize hd_dr : (((((d.toUInt64 >>> (((8 : Int32) * q1) &&& 0x3f).toInt64.toUInt64).toInt64) &&& (255 : Int64)).toInt32).toUInt32.toUInt16.toUInt32.toInt32) = dr
  refine own_s s₁ (mkF m 14 #[iv q1, rv sa, iv md, own_j d, s_, iv dr, u_] []) (fun t k => XS.istore X0.here hx rfl (hb hby d3_12) rfl (l' := #[iv q1, rv sa, iv md, own_j d, s_, iv dr, u_]) rfl k) ?_
  refine own_s s₁ (mkF m 15 #[iv q1, rv sa, iv md, own_j d, s_, iv dr, u_] [.int md]) (fun t k => XS.iloadN X0.here hx rfl (hb hby d3_14) rfl k) ?_
  refine own_s s₁ (mkF m 16 #[iv q1, rv sa, iv md, own_j d, s_, iv dr, u_] [.int 5, .int md]) (fun t k => XS.iconst X0.here hx rfl (hb hby d3_15) k) ?_
  refine own_s s₁ (mkF m 17 #[iv q1, rv sa, iv md, own_j d, s_, iv dr, u_] [.int ((md.toUInt32 >>> (5 : UInt32)).toInt32)]) (fun t k => XS.iushr X0.here hx rfl (hb hby d3_16) rfl k) ?_
  refine own_s s₁ (mkF m 18 #[iv q1, rv sa, iv md, own_j d, s_, iv dr, u_] [.int 1, .int ((md.toUInt32 >>> (5 : UInt32)).toInt32)]) (fun t k => XS.iconst X0.here hx rfl (hb hby d3_17) k) ?_
  refine own_s s₁ (mkF m 19 #[iv q1, rv sa, iv md, own_j d, s_, iv dr, u_] [.int (((md.toUInt32 >>> (5 : UInt32)).toInt32) &&& (1 : Int32))]) (fun t k => XS.iand X0.here hx rfl (hb hby d3_18) rfl k) ?_
  by_cases c19 : (((md.toUInt32 >>> (5 : UInt32)).toInt32) &&& (1 : Int32)) = (0 : Int32)
  · refine own_s s₁ (mkF m 37 #[iv q1, rv sa, iv md, own_j d, s_, iv dr, u_] []) (fun t k => XS.ifYes X0.here hx rfl (pc0 := 19) (pc' := 37) rfl (hb hby d3_19) rfl ((if0 _ _).trans (teq c19).1) (by decide) (by decide) k) ?_
    refine own_s s₁ (mkF m 38 #[iv q1, rv sa, iv md, own_j d, s_, iv dr, u_] [.int 0]) (fun t k => XS.iconst X0.here hx rfl (hb hby d3_37) k) ?_
    refine own_s s₁ (mkF m 40 #[iv q1, rv sa, iv md, own_j d, s_, iv dr, iv 0] []) (fun t k => XS.istore X0.here hx rfl (hb hby d3_38) rfl (l' := #[iv q1, rv sa, iv md, own_j d, s_, iv dr, iv 0]) rfl k) ?_
    refine own_s s₁ (mkF m 42 #[iv q1, rv sa, iv md, own_j d, s_, iv dr, iv 0] [.int 0]) (fun t k => XS.iload X0.here hx rfl (hb hby d3_40) rfl k) ?_
    refine own_s s₁ (mkF m 45 #[iv q1, rv sa, iv md, own_j d, s_, iv dr, iv 0] []) (fun t k => XS.ifNo X0.here hx rfl (hb hby d3_42) rfl ((if0 _ _).trans (teq (by decide : ((0 : Int32) = (0 : Int32)))).2) k) ?_
    refine own_s s₁ (mkF m 46 #[iv q1, rv sa, iv md, own_j d, s_, iv dr, iv 0] [.int q1]) (fun t k => XS.iloadN X0.here hx rfl (hb hby d3_45) rfl k) ?_
    refine own_s s₁ (mkF m 47 #[iv q1, rv sa, iv md, own_j d, s_, iv dr, iv 0] [.ref sa, .int q1]) (fun t k => XS.aloadN X0.here hx rfl (hb hby d3_46) rfl rfl k) ?_
    obtain ⟨cq4, kq4, q4a, q4b, q4c⟩ := isOf hZ e0 F_0
    obtain ⟨_, _, ⟨T3, L3, k3, n3⟩, -, X3, ⟨Lc3, hQ3, lq3, yq3, zq3⟩, st3⟩ := X0.virtualBack hx (y := (⟨"java/lang/String", "length", "()I"⟩ : MethodName)) (z := (⟨"java/lang/String", "length", "()I"⟩ : MethodName)) hown (mvT hZ (hW 8 _ rfl)) (mvT hZ (hW 9 _ rfl)) (notFace_of_selects (args := #[]) (mvT hZ (hW 11 _ rfl))) (mvT hZ (hW 11 _ rfl)) (mvT hZ (hW 10 _ rfl)) (by decide) (backOf (W := 1) (rm_len l Z a0 hw [] sa sb sk zn vl ic h0 n0 Z0 F_0 F_1 F_2 F_3 O0 S_c hic) hZ (hW 12 _ rfl) (hW 1 _ rfl) (by decide) (by decide)) q4a q4c (g := (mkF m 47 #[iv q1, rv sa, iv md, own_j d, s_, iv dr, iv 0] [.ref sa, .int q1])) rfl (by rw [hml]; rfl) (Steps.refl _) (argsL := []) (rest := [(.int q1)]) (lenOf pd_5 rfl) rfl (by show 2 * 0 + _ ≤ _; exact Nat.le_of_eq rfl) (hb hby d3_47) (fun _ _ => ⟨rfl, e0, (by decide : 0 + 0 ≤ _), (by decide : 0 + 0 ≤ _)⟩)
    dsimp only [Pt.U, Pt.locs, Pt.cells, Pt.slots] at X3 lq3 yq3 zq3 st3 hQ3
    subst lq3 yq3 zq3
    obtain ⟨rfl, Nq3, eq2⟩ := hQ3
    have N3 := Fr.app N0 Nq3
    refine own_tr (T' := T3) (g' := (mkF m 50 #[iv q1, rv sa, iv md, own_j d, s_, iv dr, iv 0] [.int zn, .int q1])) st3 ?_
    by_cases c50 : q1 < zn
    · refine own_s T3 (mkF m 53 #[iv q1, rv sa, iv md, own_j d, s_, iv dr, iv 0] []) (fun t k => XS.icmpNo X3.here hx rfl (hb hby d3_50) rfl (tlt c50).2.1 k) ?_
      refine own_s T3 (mkF m 54 #[iv q1, rv sa, iv md, own_j d, s_, iv dr, iv 0] [.ref sa]) (fun t k => XS.aloadN X3.here hx rfl (hb hby d3_53) rfl rfl k) ?_
      refine own_s T3 (mkF m 55 #[iv q1, rv sa, iv md, own_j d, s_, iv dr, iv 0] [.int q1, .ref sa]) (fun t k => XS.iloadN X3.here hx rfl (hb hby d3_54) rfl k) ?_
      obtain ⟨cq8, kq8, q8a, q8b, q8c⟩ := isOf hZ eq2 F_0
      obtain ⟨_, _, ⟨T7, L7, k7, n7⟩, -, X7, ⟨Lc7, hQ7, lq7, yq7, zq7⟩, st7⟩ := X3.virtualBack hx (y := (⟨"java/lang/String", "charAt", "(I)C"⟩ : MethodName)) (z := (⟨"java/lang/String", "charAt", "(I)C"⟩ : MethodName)) hown (mvT hZ (hW 27 _ rfl)) (mvT hZ (hW 28 _ rfl)) (notFace_of_selects (args := #[]) (mvT hZ (hW 30 _ rfl))) (mvT hZ (hW 30 _ rfl)) (mvT hZ (hW 29 _ rfl)) (by decide) (backOf (W := 0) (rm_sca l Z a0 hw [] sa sb sk zn vl q1 fm ic h0 n0 Z0 F_0 F_1 F_2 F_3 O0 hfm S_f htf hi0 c50 S_c hic) hZ (hW 31 _ rfl) (hW 1 _ rfl) (by decide) (by decide)) q8a q8c (g := (mkF m 55 #[iv q1, rv sa, iv md, own_j d, s_, iv dr, iv 0] [.int q1, .ref sa])) rfl (by rw [hml]; rfl) (Steps.refl _) (argsL := [(.int q1)]) (rest := []) (lenOf pd_6 rfl) rfl (by show 2 * 0 + _ ≤ _; exact Nat.le_of_eq rfl) (hb hby d3_55) (fun _ _ => ⟨rfl, eq2, (by decide : 0 + 0 ≤ _), (by decide : 0 + 0 ≤ _)⟩)
      dsimp only [Pt.U, Pt.locs, Pt.cells, Pt.slots] at X7 lq7 yq7 zq7 st7 hQ7
      subst lq7 yq7 zq7
      obtain ⟨rfl, Nq7, eq6⟩ := hQ7
      have N7 := Fr.app N3 Nq7
      refine own_tr (T' := T7) (g' := (mkF m 58 #[iv q1, rv sa, iv md, own_j d, s_, iv dr, iv 0] [.int (nar .char (nar .char (((own_at vl q1) &&& (255 : Int32)).toUInt32.toUInt16.toUInt32.toInt32)))])) st7 ?_
      refine own_rN X7 hx hlk Bd.returns (by simp) (hb hby d3_58) ?_ (by decide) (by decide)
      rw [eq6]
      subst hd_dr
      exact ⟨by first | (rw [own_chv, if_pos c19, own_ccA, if_pos c50]; done) | (rw [own_chv, if_pos c19, own_ccA, if_pos c50]; rfl), N7, rfl⟩
    · refine own_s T3 (mkF m 59 #[iv q1, rv sa, iv md, own_j d, s_, iv dr, iv 0] []) (fun t k => XS.icmpYes X3.here hx rfl (pc0 := 50) (pc' := 59) rfl (hb hby d3_50) rfl (flt c50).2.1 (by decide) (by decide) k) ?_
      refine own_s T3 (mkF m 61 #[iv q1, rv sa, iv md, own_j d, s_, iv dr, iv 0] [.int dr]) (fun t k => XS.iload X3.here hx rfl (hb hby d3_59) rfl k) ?_
      refine own_rN X3 hx hlk Bd.returns (by simp) (hb hby d3_61) ?_ (by decide) (by decide)
      rw [eq2]
      subst hd_dr
      exact ⟨by first | (rw [own_chv, if_pos c19, own_ccA, if_neg c50]; done) | (rw [own_chv, if_pos c19, own_ccA, if_neg c50]; rfl), N3, rfl⟩
  · refine own_s s₁ (mkF m 22 #[iv q1, rv sa, iv md, own_j d, s_, iv dr, u_] []) (fun t k => XS.ifNo X0.here hx rfl (hb hby d3_19) rfl ((if0 _ _).trans (feq c19).1) k) ?_
    refine own_s s₁ (mkF m 23 #[iv q1, rv sa, iv md, own_j d, s_, iv dr, u_] [.int md]) (fun t k => XS.iloadN X0.here hx rfl (hb hby d3_22) rfl k) ?_
    refine own_s s₁ (mkF m 25 #[iv q1, rv sa, iv md, own_j d, s_, iv dr, u_] [.int 6, .int md]) (fun t k => XS.bipush X0.here hx rfl (hb hby d3_23) k) ?_
    refine own_s s₁ (mkF m 26 #[iv q1, rv sa, iv md, own_j d, s_, iv dr, u_] [.int ((md.toUInt32 >>> (6 : UInt32)).toInt32)]) (fun t k => XS.iushr X0.here hx rfl (hb hby d3_25) rfl k) ?_
    refine own_s s₁ (mkF m 28 #[iv q1, rv sa, iv md, own_j d, s_, iv dr, u_] [.int 7, .int ((md.toUInt32 >>> (6 : UInt32)).toInt32)]) (fun t k => XS.bipush X0.here hx rfl (hb hby d3_26) k) ?_
    refine own_s s₁ (mkF m 29 #[iv q1, rv sa, iv md, own_j d, s_, iv dr, u_] [.int (((md.toUInt32 >>> (6 : UInt32)).toInt32) &&& (7 : Int32))]) (fun t k => XS.iand X0.here hx rfl (hb hby d3_28) rfl k) ?_
    refine own_s s₁ (mkF m 30 #[iv q1, rv sa, iv md, own_j d, s_, iv dr, u_] [.int q1, .int (((md.toUInt32 >>> (6 : UInt32)).toInt32) &&& (7 : Int32))]) (fun t k => XS.iloadN X0.here hx rfl (hb hby d3_29) rfl k) ?_
    by_cases c30 : (((md.toUInt32 >>> (6 : UInt32)).toInt32) &&& (7 : Int32)) = q1
    · refine own_s s₁ (mkF m 33 #[iv q1, rv sa, iv md, own_j d, s_, iv dr, u_] []) (fun t k => XS.icmpNo X0.here hx rfl (hb hby d3_30) rfl (teq c30).2 k) ?_
      refine own_s s₁ (mkF m 34 #[iv q1, rv sa, iv md, own_j d, s_, iv dr, u_] [.int 1]) (fun t k => XS.iconst X0.here hx rfl (hb hby d3_33) k) ?_
      refine own_s s₁ (mkF m 38 #[iv q1, rv sa, iv md, own_j d, s_, iv dr, u_] [.int 1]) (fun t k => XS.goto X0.here hx rfl (pc0 := 34) (pc' := 38) rfl (hb hby d3_34) (by decide) (by decide) k) ?_
      refine own_s s₁ (mkF m 40 #[iv q1, rv sa, iv md, own_j d, s_, iv dr, iv 1] []) (fun t k => XS.istore X0.here hx rfl (hb hby d3_38) rfl (l' := #[iv q1, rv sa, iv md, own_j d, s_, iv dr, iv 1]) rfl k) ?_
      refine own_s s₁ (mkF m 42 #[iv q1, rv sa, iv md, own_j d, s_, iv dr, iv 1] [.int 1]) (fun t k => XS.iload X0.here hx rfl (hb hby d3_40) rfl k) ?_
      refine own_s s₁ (mkF m 59 #[iv q1, rv sa, iv md, own_j d, s_, iv dr, iv 1] []) (fun t k => XS.ifYes X0.here hx rfl (pc0 := 42) (pc' := 59) rfl (hb hby d3_42) rfl ((if0 _ _).trans (feq (by decide : ¬ ((1 : Int32) = (0 : Int32)))).2) (by decide) (by decide) k) ?_
      refine own_s s₁ (mkF m 61 #[iv q1, rv sa, iv md, own_j d, s_, iv dr, iv 1] [.int dr]) (fun t k => XS.iload X0.here hx rfl (hb hby d3_59) rfl k) ?_
      refine own_rN X0 hx hlk Bd.returns (by simp) (hb hby d3_61) ?_ (by decide) (by decide)
      rw [e0]
      subst hd_dr
      exact ⟨by first | (rw [own_chv, if_neg c19, if_pos c30]; done) | (rw [own_chv, if_neg c19, if_pos c30]; rfl), N0, rfl⟩
    · refine own_s s₁ (mkF m 37 #[iv q1, rv sa, iv md, own_j d, s_, iv dr, u_] []) (fun t k => XS.icmpYes X0.here hx rfl (pc0 := 30) (pc' := 37) rfl (hb hby d3_30) rfl (feq c30).2 (by decide) (by decide) k) ?_
      refine own_s s₁ (mkF m 38 #[iv q1, rv sa, iv md, own_j d, s_, iv dr, u_] [.int 0]) (fun t k => XS.iconst X0.here hx rfl (hb hby d3_37) k) ?_
      refine own_s s₁ (mkF m 40 #[iv q1, rv sa, iv md, own_j d, s_, iv dr, iv 0] []) (fun t k => XS.istore X0.here hx rfl (hb hby d3_38) rfl (l' := #[iv q1, rv sa, iv md, own_j d, s_, iv dr, iv 0]) rfl k) ?_
      refine own_s s₁ (mkF m 42 #[iv q1, rv sa, iv md, own_j d, s_, iv dr, iv 0] [.int 0]) (fun t k => XS.iload X0.here hx rfl (hb hby d3_40) rfl k) ?_
      refine own_s s₁ (mkF m 45 #[iv q1, rv sa, iv md, own_j d, s_, iv dr, iv 0] []) (fun t k => XS.ifNo X0.here hx rfl (hb hby d3_42) rfl ((if0 _ _).trans (teq (by decide : ((0 : Int32) = (0 : Int32)))).2) k) ?_
      refine own_s s₁ (mkF m 46 #[iv q1, rv sa, iv md, own_j d, s_, iv dr, iv 0] [.int q1]) (fun t k => XS.iloadN X0.here hx rfl (hb hby d3_45) rfl k) ?_
      refine own_s s₁ (mkF m 47 #[iv q1, rv sa, iv md, own_j d, s_, iv dr, iv 0] [.ref sa, .int q1]) (fun t k => XS.aloadN X0.here hx rfl (hb hby d3_46) rfl rfl k) ?_
      obtain ⟨cq12, kq12, q12a, q12b, q12c⟩ := isOf hZ e0 F_0
      obtain ⟨_, _, ⟨T11, L11, k11, n11⟩, -, X11, ⟨Lc11, hQ11, lq11, yq11, zq11⟩, st11⟩ := X0.virtualBack hx (y := (⟨"java/lang/String", "length", "()I"⟩ : MethodName)) (z := (⟨"java/lang/String", "length", "()I"⟩ : MethodName)) hown (mvT hZ (hW 8 _ rfl)) (mvT hZ (hW 9 _ rfl)) (notFace_of_selects (args := #[]) (mvT hZ (hW 11 _ rfl))) (mvT hZ (hW 11 _ rfl)) (mvT hZ (hW 10 _ rfl)) (by decide) (backOf (W := 1) (rm_len l Z a0 hw [] sa sb sk zn vl ic h0 n0 Z0 F_0 F_1 F_2 F_3 O0 S_c hic) hZ (hW 12 _ rfl) (hW 1 _ rfl) (by decide) (by decide)) q12a q12c (g := (mkF m 47 #[iv q1, rv sa, iv md, own_j d, s_, iv dr, iv 0] [.ref sa, .int q1])) rfl (by rw [hml]; rfl) (Steps.refl _) (argsL := []) (rest := [(.int q1)]) (lenOf pd_5 rfl) rfl (by show 2 * 0 + _ ≤ _; exact Nat.le_of_eq rfl) (hb hby d3_47) (fun _ _ => ⟨rfl, e0, (by decide : 0 + 0 ≤ _), (by decide : 0 + 0 ≤ _)⟩)
      dsimp only [Pt.U, Pt.locs, Pt.cells, Pt.slots] at X11 lq11 yq11 zq11 st11 hQ11
      subst lq11 yq11 zq11
      obtain ⟨rfl, Nq11, eq10⟩ := hQ11
      have N11 := Fr.app N0 Nq11
      refine own_tr (T' := T11) (g' := (mkF m 50 #[iv q1, rv sa, iv md, own_j d, s_, iv dr, iv 0] [.int zn, .int q1])) st11 ?_
      by_cases c50 : q1 < zn
      · refine own_s T11 (mkF m 53 #[iv q1, rv sa, iv md, own_j d, s_, iv dr, iv 0] []) (fun t k => XS.icmpNo X11.here hx rfl (hb hby d3_50) rfl (tlt c50).2.1 k) ?_
        refine own_s T11 (mkF m 54 #[iv q1, rv sa, iv md, own_j d, s_, iv dr, iv 0] [.ref sa]) (fun t k => XS.aloadN X11.here hx rfl (hb hby d3_53) rfl rfl k) ?_
        refine own_s T11 (mkF m 55 #[iv q1, rv sa, iv md, own_j d, s_, iv dr, iv 0] [.int q1, .ref sa]) (fun t k => XS.iloadN X11.here hx rfl (hb hby d3_54) rfl k) ?_
        obtain ⟨cq16, kq16, q16a, q16b, q16c⟩ := isOf hZ eq10 F_0
        obtain ⟨_, _, ⟨T15, L15, k15, n15⟩, -, X15, ⟨Lc15, hQ15, lq15, yq15, zq15⟩, st15⟩ := X11.virtualBack hx (y := (⟨"java/lang/String", "charAt", "(I)C"⟩ : MethodName)) (z := (⟨"java/lang/String", "charAt", "(I)C"⟩ : MethodName)) hown (mvT hZ (hW 27 _ rfl)) (mvT hZ (hW 28 _ rfl)) (notFace_of_selects (args := #[]) (mvT hZ (hW 30 _ rfl))) (mvT hZ (hW 30 _ rfl)) (mvT hZ (hW 29 _ rfl)) (by decide) (backOf (W := 0) (rm_sca l Z a0 hw [] sa sb sk zn vl q1 fm ic h0 n0 Z0 F_0 F_1 F_2 F_3 O0 hfm S_f htf hi0 c50 S_c hic) hZ (hW 31 _ rfl) (hW 1 _ rfl) (by decide) (by decide)) q16a q16c (g := (mkF m 55 #[iv q1, rv sa, iv md, own_j d, s_, iv dr, iv 0] [.int q1, .ref sa])) rfl (by rw [hml]; rfl) (Steps.refl _) (argsL := [(.int q1)]) (rest := []) (lenOf pd_6 rfl) rfl (by show 2 * 0 + _ ≤ _; exact Nat.le_of_eq rfl) (hb hby d3_55) (fun _ _ => ⟨rfl, eq10, (by decide : 0 + 0 ≤ _), (by decide : 0 + 0 ≤ _)⟩)
        dsimp only [Pt.U, Pt.locs, Pt.cells, Pt.slots] at X15 lq15 yq15 zq15 st15 hQ15
        subst lq15 yq15 zq15
        obtain ⟨rfl, Nq15, eq14⟩ := hQ15
        have N15 := Fr.app N11 Nq15
        refine own_tr (T' := T15) (g' := (mkF m 58 #[iv q1, rv sa, iv md, own_j d, s_, iv dr, iv 0] [.int (nar .char (nar .char (((own_at vl q1) &&& (255 : Int32)).toUInt32.toUInt16.toUInt32.toInt32)))])) st15 ?_
        refine own_rN X15 hx hlk Bd.returns (by simp) (hb hby d3_58) ?_ (by decide) (by decide)
        rw [eq14]
        subst hd_dr
        exact ⟨by first | (rw [own_chv, if_neg c19, if_neg c30, own_ccA, if_pos c50]; done) | (rw [own_chv, if_neg c19, if_neg c30, own_ccA, if_pos c50]; rfl), N15, rfl⟩
      · refine own_s T11 (mkF m 59 #[iv q1, rv sa, iv md, own_j d, s_, iv dr, iv 0] []) (fun t k => XS.icmpYes X11.here hx rfl (pc0 := 50) (pc' := 59) rfl (hb hby d3_50) rfl (flt c50).2.1 (by decide) (by decide) k) ?_
        refine own_s T11 (mkF m 61 #[iv q1, rv sa, iv md, own_j d, s_, iv dr, iv 0] [.int dr]) (fun t k => XS.iload X11.here hx rfl (hb hby d3_59) rfl k) ?_
        refine own_rN X11 hx hlk Bd.returns (by simp) (hb hby d3_61) ?_ (by decide) (by decide)
        rw [eq10]
        subst hd_dr
        exact ⟨by first | (rw [own_chv, if_neg c19, if_neg c30, own_ccA, if_neg c50]; done) | (rw [own_chv, if_neg c19, if_neg c30, own_ccA, if_neg c50]; rfl), N11, rfl⟩
def Q_cfa (Z : State) (sb : Addr) (sk : ClassId) (zn : Int32) (vl : List Value) (h0 : Heap) (n0 : Nat) (v : Option Value) (h : Heap) (L : List Loc) : Prop := v = some (.int (0 : Int32)) ∧ Fr n0 L ∧ h = h0
theorem ef_rm_cfa (m : MethodId) (x0 : Addr) (x1 : Int32) : entryFrame m #[(.ref x0), (.int x1)] 2 = mkF m 0 #[.val (.ref x0), .val (.int x1)] [] := by first | (simp [entryFrame, mkF, argsToLocals, Value.category]; done) | rfl | (simp [entryFrame, mkF, argsToLocals, Value.category] <;> rfl)
theorem pn_4 : plainName "java/lang/StringUTF16" = true := by first | (simp [plainName, overriddenIn]; done) | decide +kernel
theorem d14_0 : decode jdk_52_method_15_code 0 = .ok (.iload_n 1, 1) := by decide +kernel
theorem d14_1 : decode jdk_52_method_15_code 1 = .ok (.aload_n 0, 1) := by decide +kernel
theorem d14_2 : decode jdk_52_method_15_code 2 = .ok (.arraylength, 1) := by decide +kernel
theorem d14_3 : decode jdk_52_method_15_code 3 = .ok (.isub, 1) := by decide +kernel
theorem d14_4 : decode jdk_52_method_15_code 4 = .ok (.bipush 31, 2) := by decide +kernel
theorem d14_6 : decode jdk_52_method_15_code 6 = .ok (.iushr, 1) := by decide +kernel
theorem d14_7 : decode jdk_52_method_15_code 7 = .ok (.i2b, 1) := by decide +kernel
theorem d14_8 : decode jdk_52_method_15_code 8 = .ok (.ireturn, 1) := by decide +kernel
set_option maxRecDepth 65536 in
set_option maxHeartbeats 40000000 in
theorem rm_cfa (l : Launch) (Z : State) (a0 : Array Value) (hw : ∀ d ∈ tables_1, d.before a0 Z = true) (ws : List Jvm.Cond) (sb : Addr) (sk : ClassId) (zn : Int32) (vl : List Value) (h0 : Heap) (n0 : Nat) (Z0 : n0 ≤ h0.size) (F_0 : Arv Z h0 sb sk .byte zn vl (.int (0 : Int32))) :
    MetFree l (⟨"java/lang/StringUTF16", "coderFromArrayLen", "([BI)B"⟩ : MethodName) (head1 (Jvm.Cond.code (⟨"java/lang/StringUTF16", "coderFromArrayLen", "([BI)B"⟩ : MethodName) jdk_52_method_15_code 2 (some (.byte)) :: ws) ({ frames := 0, cells := 0, slots := 0, locals := 0 } : Room)) (fun a U => a = #[(.ref sb), (.int zn)] ∧ Z.Warmed39 U.vm ∧ U.heap = h0) (fun _ _ _ _ _ => True) (fun _ U o U' => ∃ v L, o = .returned v ∧ (Q_cfa Z sb sk zn vl h0 n0) v U'.heap L ∧ FrameEnd U o U' L ({ frames := 0, cells := 0, slots := 0, locals := 0 } : Room).cells ({ frames := 0, cells := 0, slots := 0, locals := 0 } : Room).slots) := by
  refine MetFree.of_bodySF (plainFor_of_name pn_4) hisR ?_
  intro p e s m args below meth c s₁ Bd hml0 hP hK
  obtain ⟨rfl, hZ, hh⟩ := hP
  have hx := Bd.exec
  have hby := Bd.bytes
  have hW := fun i d (h : tables_1[i]? = some d) => hw d (List.mem_of_getElem? h)
  have hlk : meth.locks = false := BodyLoose.notSynchronized Bd
  have hml : c.maxLocals = 2 := hml0
  have hown : s.vm.findClass "java/lang/StringUTF16" = some m.cls := findClass_of_methodNamed Bd.named
  have hnm := (name_of_methodNamed Bd.named Bd.method).1
  have X0 : Stand p l e ({ frames := 0, cells := 0, slots := 0, locals := 0 } : Room) s m #[(.ref sb), (.int zn)] below meth c s₁ [] 0 0 := Stand.of_body Bd
  have e0 : s₁.heap = h0 := by rw [← hh, Bd.state]; rfl
  have N0 := Fr.nil n0
  show own_Go p e below s (Q_cfa Z sb sk zn vl h0 n0) ({ frames := 0, cells := 0, slots := 0, locals := 0 } : Room).cells ({ frames := 0, cells := 0, slots := 0, locals := 0 } : Room).slots s₁ (entryFrame m #[(.ref sb), (.int zn)] 2)
  refine own_cast (g' := (mkF m 0 #[rv sb, iv zn] [])) (ef_rm_cfa m sb zn) ?_
  refine own_s s₁ (mkF m 1 #[rv sb, iv zn] [.int zn]) (fun t k => XS.iloadN X0.here hx rfl (hb hby d14_0) rfl k) ?_
  refine own_s s₁ (mkF m 2 #[rv sb, iv zn] [.ref sb, .int zn]) (fun t k => XS.aloadN X0.here hx rfl (hb hby d14_1) rfl rfl k) ?_
  obtain ⟨cl1, Ar1, qa1, S1, M1, H1, U1⟩ := id F_0
  have ln1 := len_of S1 M1
  refine own_s s₁ (mkF m 3 #[rv sb, iv zn] [.int zn, .int zn]) (fun t k => X0.arraylength hx (cell := cl1) (by rw [e0]; exact Ar1.1) (State.isArrayOf_alike hZ.alike Ar1.2.1) (g := (mkF m 2 #[rv sb, iv zn] [.ref sb, .int zn])) rfl rfl (hb hby d14_2) t (by rw [ln1]; exact k)) ?_
  refine own_s s₁ (mkF m 4 #[rv sb, iv zn] [.int (zn - zn)]) (fun t k => XS.isub X0.here hx rfl (hb hby d14_3) rfl k) ?_
  refine own_s s₁ (mkF m 6 #[rv sb, iv zn] [.int 31, .int (zn - zn)]) (fun t k => XS.bipush X0.here hx rfl (hb hby d14_4) k) ?_
  refine own_s s₁ (mkF m 7 #[rv sb, iv zn] [.int (((zn - zn).toUInt32 >>> (31 : UInt32)).toInt32)]) (fun t k => XS.iushr X0.here hx rfl (hb hby d14_6) rfl k) ?_
  refine own_s s₁ (mkF m 8 #[rv sb, iv zn] [.int ((((zn - zn).toUInt32 >>> (31 : UInt32)).toInt32).toInt8.toInt32)]) (fun t k => XS.i2b X0.here hx rfl (hb hby d14_7) rfl k) ?_
  refine own_rN X0 hx hlk Bd.returns (by simp) (hb hby d14_8) ?_ (by decide) (by decide)
  rw [e0]
  exact ⟨by rw [Int32.sub_self]; rfl, N0, rfl⟩
def Q_cp5 (Z : State) (sb : Addr) (sk : ClassId) (zn : Int32) (vl : List Value) (a2 : Addr) (kb : ClassId) (h0 : Heap) (n0 : Nat) (v : Option Value) (h : Heap) (L : List Loc) : Prop := ∃ (wl : List Value), v = some (.int zn) ∧ Fr n0 L ∧ Keep h0 h [a2] ∧ Arv Z h a2 kb .byte zn wl (.int (0 : Int32)) ∧ own_form zn wl
theorem ef_rm_cp5 (m : MethodId) (x0 : Addr) (x1 : Int32) (x2 : Addr) (x3 : Int32) (x4 : Int32) : entryFrame m #[(.ref x0), (.int x1), (.ref x2), (.int x3), (.int x4)] 7 = mkF m 0 #[.val (.ref x0), .val (.int x1), .val (.ref x2), .val (.int x3), .val (.int x4), .unset, .unset] [] := by first | (simp [entryFrame, mkF, argsToLocals, Value.category]; done) | rfl | (simp [entryFrame, mkF, argsToLocals, Value.category] <;> rfl)
theorem d13_0 : decode jdk_52_method_21_code 0 = .ok (.iconst 0, 1) := by decide +kernel
theorem d13_1 : decode jdk_52_method_21_code 1 = .ok (.istore 5, 2) := by decide +kernel
theorem d13_3 : decode jdk_52_method_21_code 3 = .ok (.iload 5, 2) := by decide +kernel
theorem d13_5 : decode jdk_52_method_21_code 5 = .ok (.iload 4, 2) := by decide +kernel
theorem d13_7 : decode jdk_52_method_21_code 7 = .ok (.if_icmp .ge 37, 3) := by decide +kernel
theorem d13_10 : decode jdk_52_method_21_code 10 = .ok (.aload_n 0, 1) := by decide +kernel
theorem d13_11 : decode jdk_52_method_21_code 11 = .ok (.iload_n 1, 1) := by decide +kernel
theorem d13_12 : decode jdk_52_method_21_code 12 = .ok (.caload, 1) := by decide +kernel
theorem d13_13 : decode jdk_52_method_21_code 13 = .ok (.istore 6, 2) := by decide +kernel
theorem d13_15 : decode jdk_52_method_21_code 15 = .ok (.iload 6, 2) := by decide +kernel
theorem d13_17 : decode jdk_52_method_21_code 17 = .ok (.sipush 255, 3) := by decide +kernel
theorem d13_20 : decode jdk_52_method_21_code 20 = .ok (.if_icmp .le 6, 3) := by decide +kernel
theorem d13_26 : decode jdk_52_method_21_code 26 = .ok (.aload_n 2, 1) := by decide +kernel
theorem d13_27 : decode jdk_52_method_21_code 27 = .ok (.iload_n 3, 1) := by decide +kernel
theorem d13_28 : decode jdk_52_method_21_code 28 = .ok (.iload 6, 2) := by decide +kernel
theorem d13_30 : decode jdk_52_method_21_code 30 = .ok (.i2b, 1) := by decide +kernel
theorem d13_31 : decode jdk_52_method_21_code 31 = .ok (.bastore, 1) := by decide +kernel
theorem d13_32 : decode jdk_52_method_21_code 32 = .ok (.iinc 1 1, 3) := by decide +kernel
theorem d13_35 : decode jdk_52_method_21_code 35 = .ok (.iinc 3 1, 3) := by decide +kernel
theorem d13_38 : decode jdk_52_method_21_code 38 = .ok (.iinc 5 1, 3) := by decide +kernel
theorem d13_41 : decode jdk_52_method_21_code 41 = .ok (.goto (-38), 3) := by decide +kernel
theorem d13_44 : decode jdk_52_method_21_code 44 = .ok (.iload 4, 2) := by decide +kernel
theorem d13_46 : decode jdk_52_method_21_code 46 = .ok (.ireturn, 1) := by decide +kernel
set_option maxRecDepth 65536 in
set_option maxHeartbeats 40000000 in
theorem rm_cp5 (l : Launch) (Z : State) (a0 : Array Value) (hw : ∀ d ∈ tables_1, d.before a0 Z = true) (ws : List Jvm.Cond) (sb : Addr) (sk : ClassId) (zn : Int32) (vl : List Value) (a2 : Addr) (kb : ClassId) (h0 : Heap) (n0 : Nat) (Z0 : n0 ≤ h0.size) (F_0 : Arv Z h0 sb sk .char zn vl (.int (0 : Int32))) (F_1 : Arv Z h0 a2 kb .byte zn [] (.int (0 : Int32))) (o_a2 : n0 ≤ a2) (n_sb_a2 : sb ≠ a2) (hfc : own_fc zn vl) :
    MetFree l (⟨"java/lang/StringUTF16", "compress", "([CI[BII)I"⟩ : MethodName) (head1 (Jvm.Cond.code (⟨"java/lang/StringUTF16", "compress", "([CI[BII)I"⟩ : MethodName) jdk_52_method_21_code 7 (some (.int)) :: ws) ({ frames := 0, cells := 0, slots := 0, locals := 0 } : Room)) (fun a U => a = #[(.ref sb), (.int (0 : Int32)), (.ref a2), (.int (0 : Int32)), (.int zn)] ∧ Z.Warmed39 U.vm ∧ U.heap = h0) (fun _ _ _ _ _ => True) (fun _ U o U' => ∃ v L, o = .returned v ∧ (Q_cp5 Z sb sk zn vl a2 kb h0 n0) v U'.heap L ∧ FrameEnd U o U' L ({ frames := 0, cells := 0, slots := 0, locals := 0 } : Room).cells ({ frames := 0, cells := 0, slots := 0, locals := 0 } : Room).slots) := by
  refine MetFree.of_bodySF (plainFor_of_name pn_4) hisR ?_
  intro p e s m args below meth c s₁ Bd hml0 hP hK
  obtain ⟨rfl, hZ, hh⟩ := hP
  have hx := Bd.exec
  have hby := Bd.bytes
  have hW := fun i d (h : tables_1[i]? = some d) => hw d (List.mem_of_getElem? h)
  have hlk : meth.locks = false := BodyLoose.notSynchronized Bd
  have hml : c.maxLocals = 7 := hml0
  have hown : s.vm.findClass "java/lang/StringUTF16" = some m.cls := findClass_of_methodNamed Bd.named
  have hnm := (name_of_methodNamed Bd.named Bd.method).1
  have X0 : Stand p l e ({ frames := 0, cells := 0, slots := 0, locals := 0 } : Room) s m #[(.ref sb), (.int (0 : Int32)), (.ref a2), (.int (0 : Int32)), (.int zn)] below meth c s₁ [] 0 0 := Stand.of_body Bd
  have e0 : s₁.heap = h0 := by rw [← hh, Bd.state]; rfl
  have N0 := Fr.nil n0
  show own_Go p e below s (Q_cp5 Z sb sk zn vl a2 kb h0 n0) ({ frames := 0, cells := 0, slots := 0, locals := 0 } : Room).cells ({ frames := 0, cells := 0, slots := 0, locals := 0 } : Room).slots s₁ (entryFrame m #[(.ref sb), (.int (0 : Int32)), (.ref a2), (.int (0 : Int32)), (.int zn)] 7)
  refine own_cast (g' := (mkF m 0 #[rv sb, iv 0, rv a2, iv 0, iv zn, u_, u_] [])) (ef_rm_cp5 m sb (0 : Int32) a2 (0 : Int32) zn) ?_
  have K0 : Keep h0 h0 [a2] := Keep.refl _ _
  rcases hfc with ⟨c0, rfl, rfl, hc0⟩ | ⟨c0, c1, rfl, rfl, hc0, hc1⟩ | ⟨c0, c1, c2, rfl, rfl, hc0, hc1, hc2⟩ | ⟨c0, c1, c2, c3, rfl, rfl, hc0, hc1, hc2, hc3⟩ | ⟨c0, c1, c2, c3, c4, rfl, rfl, hc0, hc1, hc2, hc3, hc4⟩ | ⟨c0, c1, c2, c3, c4, c5, rfl, rfl, hc0, hc1, hc2, hc3, hc4, hc5⟩ | ⟨c0, c1, c2, c3, c4, c5, c6, rfl, rfl, hc0, hc1, hc2, hc3, hc4, hc5, hc6⟩ | ⟨c0, c1, c2, c3, c4, c5, c6, c7, rfl, rfl, hc0, hc1, hc2, hc3, hc4, hc5, hc6, hc7⟩
  · have Vp : Arv Z h0 a2 kb .byte (1 : Int32) [(.int (0 : Int32))] (.int (0 : Int32)) := F_1.pad (pad_rep [] (.int (0 : Int32)) 1)
    refine own_s s₁ (mkF m 1 #[rv sb, iv 0, rv a2, iv 0, iv 1, u_, u_] [.int 0]) (fun t k => XS.iconst X0.here hx rfl (hb hby d13_0) k) ?_
    refine own_s s₁ (mkF m 3 #[rv sb, iv 0, rv a2, iv 0, iv 1, iv 0, u_] []) (fun t k => XS.istore X0.here hx rfl (hb hby d13_1) rfl (l' := #[rv sb, iv 0, rv a2, iv 0, iv 1, iv 0, u_]) rfl k) ?_
    refine own_s s₁ (mkF m 5 #[rv sb, iv 0, rv a2, iv 0, iv 1, iv 0, u_] [.int 0]) (fun t k => XS.iload X0.here hx rfl (hb hby d13_3) rfl k) ?_
    refine own_s s₁ (mkF m 7 #[rv sb, iv 0, rv a2, iv 0, iv 1, iv 0, u_] [.int 1, .int 0]) (fun t k => XS.iload X0.here hx rfl (hb hby d13_5) rfl k) ?_
    refine own_s s₁ (mkF m 10 #[rv sb, iv 0, rv a2, iv 0, iv 1, iv 0, u_] []) (fun t k => XS.icmpNo X0.here hx rfl (hb hby d13_7) rfl (tlt (by decide : ((0 : Int32) < (1 : Int32)))).2.1 k) ?_
    refine own_s s₁ (mkF m 11 #[rv sb, iv 0, rv a2, iv 0, iv 1, iv 0, u_] [.ref sb]) (fun t k => XS.aloadN X0.here hx rfl (hb hby d13_10) rfl rfl k) ?_
    refine own_s s₁ (mkF m 12 #[rv sb, iv 0, rv a2, iv 0, iv 1, iv 0, u_] [.int 0, .ref sb]) (fun t k => XS.iloadN X0.here hx rfl (hb hby d13_11) rfl k) ?_
    obtain ⟨cl1, Ar1, qa1, S1, M1, H1, U1⟩ := id F_0
    have hi1 := inb_of S1 (j := (0 : Int32)) ⟨by decide, by decide⟩
    have hat1 := H1.at hi1 (v := (.int c0)) rfl
    refine own_s s₁ (mkF m 13 #[rv sb, iv 0, rv a2, iv 0, iv 1, iv 0, u_] [.int c0]) (fun t k => X0.caload hx (j := (0 : Int32)) (v := (.int c0)) (by rw [e0]; exact Ar1.1) (State.isArrayOf_alike hZ.alike Ar1.2.1) Ar1.2.2 hi1 hat1 (g := (mkF m 12 #[rv sb, iv 0, rv a2, iv 0, iv 1, iv 0, u_] [.int 0, .ref sb])) rfl rfl (hb hby d13_12) t k) ?_
    refine own_s s₁ (mkF m 15 #[rv sb, iv 0, rv a2, iv 0, iv 1, iv 0, iv c0] []) (fun t k => XS.istore X0.here hx rfl (hb hby d13_13) rfl (l' := #[rv sb, iv 0, rv a2, iv 0, iv 1, iv 0, iv c0]) rfl k) ?_
    refine own_s s₁ (mkF m 17 #[rv sb, iv 0, rv a2, iv 0, iv 1, iv 0, iv c0] [.int c0]) (fun t k => XS.iload X0.here hx rfl (hb hby d13_15) rfl k) ?_
    refine own_s s₁ (mkF m 20 #[rv sb, iv 0, rv a2, iv 0, iv 1, iv 0, iv c0] [.int 255, .int c0]) (fun t k => XS.sipush X0.here hx rfl (hb hby d13_17) k) ?_
    refine own_s s₁ (mkF m 26 #[rv sb, iv 0, rv a2, iv 0, iv 1, iv 0, iv c0] []) (fun t k => XS.icmpYes X0.here hx rfl (pc0 := 20) (pc' := 26) rfl (hb hby d13_20) rfl (flt hc0).2.2.2 (by decide) (by decide) k) ?_
    refine own_s s₁ (mkF m 27 #[rv sb, iv 0, rv a2, iv 0, iv 1, iv 0, iv c0] [.ref a2]) (fun t k => XS.aloadN X0.here hx rfl (hb hby d13_26) rfl rfl k) ?_
    refine own_s s₁ (mkF m 28 #[rv sb, iv 0, rv a2, iv 0, iv 1, iv 0, iv c0] [.int 0, .ref a2]) (fun t k => XS.iloadN X0.here hx rfl (hb hby d13_27) rfl k) ?_
    refine own_s s₁ (mkF m 30 #[rv sb, iv 0, rv a2, iv 0, iv 1, iv 0, iv c0] [.int c0, .int 0, .ref a2]) (fun t k => XS.iload X0.here hx rfl (hb hby d13_28) rfl k) ?_
    refine own_s s₁ (mkF m 31 #[rv sb, iv 0, rv a2, iv 0, iv 1, iv 0, iv c0] [.int (c0.toInt8.toInt32), .int 0, .ref a2]) (fun t k => XS.i2b X0.here hx rfl (hb hby d13_30) rfl k) ?_
    obtain ⟨cl2, Ar2, qa2, S2, M2, H2, U2⟩ := id Vp
    obtain ⟨T2, h2, X2, e2, W2, st2⟩ := stB X0 hx hZ e0 Ar2 (j := (0 : Int32)) (inb_of S2 ⟨by decide, by decide⟩) (g := (mkF m 31 #[rv sb, iv 0, rv a2, iv 0, iv 1, iv 0, iv c0] [.int (c0.toInt8.toInt32), .int 0, .ref a2])) rfl rfl (hb hby d13_31)
    have g3 := F_0.other W2 n_sb_a2
    have g4 : Arv Z h2 a2 kb .byte (1 : Int32) [(.int (nar .byte (c0.toInt8.toInt32)))] (.int (0 : Int32)) := Arv.set Ar2 qa2 S2 M2 H2 U2 (fits_nar_byte _) W2 0 rfl (Nat.le_of_ble_eq_true rfl)
    have K5 : Keep h0 h2 [a2] := K0.wr W2 (Or.inl (List.mem_of_getElem? (i := 0) rfl))
    have N2 := Fr.snoc X2 N0 o_a2
    have Z2 : n0 ≤ h2.size := (Nat.le_trans Z0 (Nat.le_of_eq W2.size.symm))
    refine own_s T2 (mkF m 32 #[rv sb, iv 0, rv a2, iv 0, iv 1, iv 0, iv c0] []) st2 ?_
    refine own_s T2 (mkF m 35 #[rv sb, iv 1, rv a2, iv 0, iv 1, iv 0, iv c0] []) (fun t k => XS.iinc X2.here hx rfl (hb hby d13_32) rfl (l' := #[rv sb, iv 1, rv a2, iv 0, iv 1, iv 0, iv c0]) rfl k) ?_
    refine own_s T2 (mkF m 38 #[rv sb, iv 1, rv a2, iv 1, iv 1, iv 0, iv c0] []) (fun t k => XS.iinc X2.here hx rfl (hb hby d13_35) rfl (l' := #[rv sb, iv 1, rv a2, iv 1, iv 1, iv 0, iv c0]) rfl k) ?_
    refine own_s T2 (mkF m 41 #[rv sb, iv 1, rv a2, iv 1, iv 1, iv 1, iv c0] []) (fun t k => XS.iinc X2.here hx rfl (hb hby d13_38) rfl (l' := #[rv sb, iv 1, rv a2, iv 1, iv 1, iv 1, iv c0]) rfl k) ?_
    refine own_s T2 (mkF m 3 #[rv sb, iv 1, rv a2, iv 1, iv 1, iv 1, iv c0] []) (fun t k => XS.goto X2.here hx rfl (pc0 := 41) (pc' := 3) rfl (hb hby d13_41) (by decide) (by decide) k) ?_
    refine own_s T2 (mkF m 5 #[rv sb, iv 1, rv a2, iv 1, iv 1, iv 1, iv c0] [.int 1]) (fun t k => XS.iload X2.here hx rfl (hb hby d13_3) rfl k) ?_
    refine own_s T2 (mkF m 7 #[rv sb, iv 1, rv a2, iv 1, iv 1, iv 1, iv c0] [.int 1, .int 1]) (fun t k => XS.iload X2.here hx rfl (hb hby d13_5) rfl k) ?_
    refine own_s T2 (mkF m 44 #[rv sb, iv 1, rv a2, iv 1, iv 1, iv 1, iv c0] []) (fun t k => XS.icmpYes X2.here hx rfl (pc0 := 7) (pc' := 44) rfl (hb hby d13_7) rfl (flt (by decide : ¬ ((1 : Int32) < (1 : Int32)))).2.1 (by decide) (by decide) k) ?_
    refine own_s T2 (mkF m 46 #[rv sb, iv 1, rv a2, iv 1, iv 1, iv 1, iv c0] [.int 1]) (fun t k => XS.iload X2.here hx rfl (hb hby d13_44) rfl k) ?_
    refine own_rI X2 hx hlk Bd.returns (hb hby d13_46) ?_ (by decide) (by decide)
    rw [e2]
    exact ⟨[(.int (nar .byte (c0.toInt8.toInt32)))], rfl, N2, K5, g4, (Or.inr (Or.inl ⟨_, rfl, rfl⟩))⟩
  · have Vp : Arv Z h0 a2 kb .byte (2 : Int32) [(.int (0 : Int32)), (.int (0 : Int32))] (.int (0 : Int32)) := F_1.pad (pad_rep [] (.int (0 : Int32)) 2)
    refine own_s s₁ (mkF m 1 #[rv sb, iv 0, rv a2, iv 0, iv 2, u_, u_] [.int 0]) (fun t k => XS.iconst X0.here hx rfl (hb hby d13_0) k) ?_
    refine own_s s₁ (mkF m 3 #[rv sb, iv 0, rv a2, iv 0, iv 2, iv 0, u_] []) (fun t k => XS.istore X0.here hx rfl (hb hby d13_1) rfl (l' := #[rv sb, iv 0, rv a2, iv 0, iv 2, iv 0, u_]) rfl k) ?_
    refine own_s s₁ (mkF m 5 #[rv sb, iv 0, rv a2, iv 0, iv 2, iv 0, u_] [.int 0]) (fun t k => XS.iload X0.here hx rfl (hb hby d13_3) rfl k) ?_
    refine own_s s₁ (mkF m 7 #[rv sb, iv 0, rv a2, iv 0, iv 2, iv 0, u_] [.int 2, .int 0]) (fun t k => XS.iload X0.here hx rfl (hb hby d13_5) rfl k) ?_
    refine own_s s₁ (mkF m 10 #[rv sb, iv 0, rv a2, iv 0, iv 2, iv 0, u_] []) (fun t k => XS.icmpNo X0.here hx rfl (hb hby d13_7) rfl (tlt (by decide : ((0 : Int32) < (2 : Int32)))).2.1 k) ?_
    refine own_s s₁ (mkF m 11 #[rv sb, iv 0, rv a2, iv 0, iv 2, iv 0, u_] [.ref sb]) (fun t k => XS.aloadN X0.here hx rfl (hb hby d13_10) rfl rfl k) ?_
    refine own_s s₁ (mkF m 12 #[rv sb, iv 0, rv a2, iv 0, iv 2, iv 0, u_] [.int 0, .ref sb]) (fun t k => XS.iloadN X0.here hx rfl (hb hby d13_11) rfl k) ?_
    obtain ⟨cl6, Ar6, qa6, S6, M6, H6, U6⟩ := id F_0
    have hi6 := inb_of S6 (j := (0 : Int32)) ⟨by decide, by decide⟩
    have hat6 := H6.at hi6 (v := (.int c0)) rfl
    refine own_s s₁ (mkF m 13 #[rv sb, iv 0, rv a2, iv 0, iv 2, iv 0, u_] [.int c0]) (fun t k => X0.caload hx (j := (0 : Int32)) (v := (.int c0)) (by rw [e0]; exact Ar6.1) (State.isArrayOf_alike hZ.alike Ar6.2.1) Ar6.2.2 hi6 hat6 (g := (mkF m 12 #[rv sb, iv 0, rv a2, iv 0, iv 2, iv 0, u_] [.int 0, .ref sb])) rfl rfl (hb hby d13_12) t k) ?_
    refine own_s s₁ (mkF m 15 #[rv sb, iv 0, rv a2, iv 0, iv 2, iv 0, iv c0] []) (fun t k => XS.istore X0.here hx rfl (hb hby d13_13) rfl (l' := #[rv sb, iv 0, rv a2, iv 0, iv 2, iv 0, iv c0]) rfl k) ?_
    refine own_s s₁ (mkF m 17 #[rv sb, iv 0, rv a2, iv 0, iv 2, iv 0, iv c0] [.int c0]) (fun t k => XS.iload X0.here hx rfl (hb hby d13_15) rfl k) ?_
    refine own_s s₁ (mkF m 20 #[rv sb, iv 0, rv a2, iv 0, iv 2, iv 0, iv c0] [.int 255, .int c0]) (fun t k => XS.sipush X0.here hx rfl (hb hby d13_17) k) ?_
    refine own_s s₁ (mkF m 26 #[rv sb, iv 0, rv a2, iv 0, iv 2, iv 0, iv c0] []) (fun t k => XS.icmpYes X0.here hx rfl (pc0 := 20) (pc' := 26) rfl (hb hby d13_20) rfl (flt hc0).2.2.2 (by decide) (by decide) k) ?_
    refine own_s s₁ (mkF m 27 #[rv sb, iv 0, rv a2, iv 0, iv 2, iv 0, iv c0] [.ref a2]) (fun t k => XS.aloadN X0.here hx rfl (hb hby d13_26) rfl rfl k) ?_
    refine own_s s₁ (mkF m 28 #[rv sb, iv 0, rv a2, iv 0, iv 2, iv 0, iv c0] [.int 0, .ref a2]) (fun t k => XS.iloadN X0.here hx rfl (hb hby d13_27) rfl k) ?_
    refine own_s s₁ (mkF m 30 #[rv sb, iv 0, rv a2, iv 0, iv 2, iv 0, iv c0] [.int c0, .int 0, .ref a2]) (fun t k => XS.iload X0.here hx rfl (hb hby d13_28) rfl k) ?_
    refine own_s s₁ (mkF m 31 #[rv sb, iv 0, rv a2, iv 0, iv 2, iv 0, iv c0] [.int (c0.toInt8.toInt32), .int 0, .ref a2]) (fun t k => XS.i2b X0.here hx rfl (hb hby d13_30) rfl k) ?_
    obtain ⟨cl7, Ar7, qa7, S7, M7, H7, U7⟩ := id Vp
    obtain ⟨T7, h7, X7, e7, W7, st7⟩ := stB X0 hx hZ e0 Ar7 (j := (0 : Int32)) (inb_of S7 ⟨by decide, by decide⟩) (g := (mkF m 31 #[rv sb, iv 0, rv a2, iv 0, iv 2, iv 0, iv c0] [.int (c0.toInt8.toInt32), .int 0, .ref a2])) rfl rfl (hb hby d13_31)
    have g8 := F_0.other W7 n_sb_a2
    have g9 : Arv Z h7 a2 kb .byte (2 : Int32) [(.int (nar .byte (c0.toInt8.toInt32))), (.int (0 : Int32))] (.int (0 : Int32)) := Arv.set Ar7 qa7 S7 M7 H7 U7 (fits_nar_byte _) W7 0 rfl (Nat.le_of_ble_eq_true rfl)
    have K10 : Keep h0 h7 [a2] := K0.wr W7 (Or.inl (List.mem_of_getElem? (i := 0) rfl))
    have N7 := Fr.snoc X7 N0 o_a2
    have Z7 : n0 ≤ h7.size := (Nat.le_trans Z0 (Nat.le_of_eq W7.size.symm))
    refine own_s T7 (mkF m 32 #[rv sb, iv 0, rv a2, iv 0, iv 2, iv 0, iv c0] []) st7 ?_
    refine own_s T7 (mkF m 35 #[rv sb, iv 1, rv a2, iv 0, iv 2, iv 0, iv c0] []) (fun t k => XS.iinc X7.here hx rfl (hb hby d13_32) rfl (l' := #[rv sb, iv 1, rv a2, iv 0, iv 2, iv 0, iv c0]) rfl k) ?_
    refine own_s T7 (mkF m 38 #[rv sb, iv 1, rv a2, iv 1, iv 2, iv 0, iv c0] []) (fun t k => XS.iinc X7.here hx rfl (hb hby d13_35) rfl (l' := #[rv sb, iv 1, rv a2, iv 1, iv 2, iv 0, iv c0]) rfl k) ?_
    refine own_s T7 (mkF m 41 #[rv sb, iv 1, rv a2, iv 1, iv 2, iv 1, iv c0] []) (fun t k => XS.iinc X7.here hx rfl (hb hby d13_38) rfl (l' := #[rv sb, iv 1, rv a2, iv 1, iv 2, iv 1, iv c0]) rfl k) ?_
    refine own_s T7 (mkF m 3 #[rv sb, iv 1, rv a2, iv 1, iv 2, iv 1, iv c0] []) (fun t k => XS.goto X7.here hx rfl (pc0 := 41) (pc' := 3) rfl (hb hby d13_41) (by decide) (by decide) k) ?_
    refine own_s T7 (mkF m 5 #[rv sb, iv 1, rv a2, iv 1, iv 2, iv 1, iv c0] [.int 1]) (fun t k => XS.iload X7.here hx rfl (hb hby d13_3) rfl k) ?_
    refine own_s T7 (mkF m 7 #[rv sb, iv 1, rv a2, iv 1, iv 2, iv 1, iv c0] [.int 2, .int 1]) (fun t k => XS.iload X7.here hx rfl (hb hby d13_5) rfl k) ?_
    refine own_s T7 (mkF m 10 #[rv sb, iv 1, rv a2, iv 1, iv 2, iv 1, iv c0] []) (fun t k => XS.icmpNo X7.here hx rfl (hb hby d13_7) rfl (tlt (by decide : ((1 : Int32) < (2 : Int32)))).2.1 k) ?_
    refine own_s T7 (mkF m 11 #[rv sb, iv 1, rv a2, iv 1, iv 2, iv 1, iv c0] [.ref sb]) (fun t k => XS.aloadN X7.here hx rfl (hb hby d13_10) rfl rfl k) ?_
    refine own_s T7 (mkF m 12 #[rv sb, iv 1, rv a2, iv 1, iv 2, iv 1, iv c0] [.int 1, .ref sb]) (fun t k => XS.iloadN X7.here hx rfl (hb hby d13_11) rfl k) ?_
    obtain ⟨cl11, Ar11, qa11, S11, M11, H11, U11⟩ := id g8
    have hi11 := inb_of S11 (j := (1 : Int32)) ⟨by decide, by decide⟩
    have hat11 := H11.at hi11 (v := (.int c1)) rfl
    refine own_s T7 (mkF m 13 #[rv sb, iv 1, rv a2, iv 1, iv 2, iv 1, iv c0] [.int c1]) (fun t k => X7.caload hx (j := (1 : Int32)) (v := (.int c1)) (by rw [e7]; exact Ar11.1) (State.isArrayOf_alike hZ.alike Ar11.2.1) Ar11.2.2 hi11 hat11 (g := (mkF m 12 #[rv sb, iv 1, rv a2, iv 1, iv 2, iv 1, iv c0] [.int 1, .ref sb])) rfl rfl (hb hby d13_12) t k) ?_
    refine own_s T7 (mkF m 15 #[rv sb, iv 1, rv a2, iv 1, iv 2, iv 1, iv c1] []) (fun t k => XS.istore X7.here hx rfl (hb hby d13_13) rfl (l' := #[rv sb, iv 1, rv a2, iv 1, iv 2, iv 1, iv c1]) rfl k) ?_
    refine own_s T7 (mkF m 17 #[rv sb, iv 1, rv a2, iv 1, iv 2, iv 1, iv c1] [.int c1]) (fun t k => XS.iload X7.here hx rfl (hb hby d13_15) rfl k) ?_
    refine own_s T7 (mkF m 20 #[rv sb, iv 1, rv a2, iv 1, iv 2, iv 1, iv c1] [.int 255, .int c1]) (fun t k => XS.sipush X7.here hx rfl (hb hby d13_17) k) ?_
    refine own_s T7 (mkF m 26 #[rv sb, iv 1, rv a2, iv 1, iv 2, iv 1, iv c1] []) (fun t k => XS.icmpYes X7.here hx rfl (pc0 := 20) (pc' := 26) rfl (hb hby d13_20) rfl (flt hc1).2.2.2 (by decide) (by decide) k) ?_
    refine own_s T7 (mkF m 27 #[rv sb, iv 1, rv a2, iv 1, iv 2, iv 1, iv c1] [.ref a2]) (fun t k => XS.aloadN X7.here hx rfl (hb hby d13_26) rfl rfl k) ?_
    refine own_s T7 (mkF m 28 #[rv sb, iv 1, rv a2, iv 1, iv 2, iv 1, iv c1] [.int 1, .ref a2]) (fun t k => XS.iloadN X7.here hx rfl (hb hby d13_27) rfl k) ?_
    refine own_s T7 (mkF m 30 #[rv sb, iv 1, rv a2, iv 1, iv 2, iv 1, iv c1] [.int c1, .int 1, .ref a2]) (fun t k => XS.iload X7.here hx rfl (hb hby d13_28) rfl k) ?_
    refine own_s T7 (mkF m 31 #[rv sb, iv 1, rv a2, iv 1, iv 2, iv 1, iv c1] [.int (c1.toInt8.toInt32), .int 1, .ref a2]) (fun t k => XS.i2b X7.here hx rfl (hb hby d13_30) rfl k) ?_
    obtain ⟨cl12, Ar12, qa12, S12, M12, H12, U12⟩ := id g9
    obtain ⟨T12, h12, X12, e12, W12, st12⟩ := stB X7 hx hZ e7 Ar12 (j := (1 : Int32)) (inb_of S12 ⟨by decide, by decide⟩) (g := (mkF m 31 #[rv sb, iv 1, rv a2, iv 1, iv 2, iv 1, iv c1] [.int (c1.toInt8.toInt32), .int 1, .ref a2])) rfl rfl (hb hby d13_31)
    have g13 := g8.other W12 n_sb_a2
    have g14 : Arv Z h12 a2 kb .byte (2 : Int32) [(.int (nar .byte (c0.toInt8.toInt32))), (.int (nar .byte (c1.toInt8.toInt32)))] (.int (0 : Int32)) := Arv.set Ar12 qa12 S12 M12 H12 U12 (fits_nar_byte _) W12 1 rfl (Nat.le_of_ble_eq_true rfl)
    have K15 : Keep h0 h12 [a2] := K10.wr W12 (Or.inl (List.mem_of_getElem? (i := 0) rfl))
    have N12 := Fr.snoc X12 N7 o_a2
    have Z12 : n0 ≤ h12.size := (Nat.le_trans Z7 (Nat.le_of_eq W12.size.symm))
    refine own_s T12 (mkF m 32 #[rv sb, iv 1, rv a2, iv 1, iv 2, iv 1, iv c1] []) st12 ?_
    refine own_s T12 (mkF m 35 #[rv sb, iv 2, rv a2, iv 1, iv 2, iv 1, iv c1] []) (fun t k => XS.iinc X12.here hx rfl (hb hby d13_32) rfl (l' := #[rv sb, iv 2, rv a2, iv 1, iv 2, iv 1, iv c1]) rfl k) ?_
    refine own_s T12 (mkF m 38 #[rv sb, iv 2, rv a2, iv 2, iv 2, iv 1, iv c1] []) (fun t k => XS.iinc X12.here hx rfl (hb hby d13_35) rfl (l' := #[rv sb, iv 2, rv a2, iv 2, iv 2, iv 1, iv c1]) rfl k) ?_
    refine own_s T12 (mkF m 41 #[rv sb, iv 2, rv a2, iv 2, iv 2, iv 2, iv c1] []) (fun t k => XS.iinc X12.here hx rfl (hb hby d13_38) rfl (l' := #[rv sb, iv 2, rv a2, iv 2, iv 2, iv 2, iv c1]) rfl k) ?_
    refine own_s T12 (mkF m 3 #[rv sb, iv 2, rv a2, iv 2, iv 2, iv 2, iv c1] []) (fun t k => XS.goto X12.here hx rfl (pc0 := 41) (pc' := 3) rfl (hb hby d13_41) (by decide) (by decide) k) ?_
    refine own_s T12 (mkF m 5 #[rv sb, iv 2, rv a2, iv 2, iv 2, iv 2, iv c1] [.int 2]) (fun t k => XS.iload X12.here hx rfl (hb hby d13_3) rfl k) ?_
    refine own_s T12 (mkF m 7 #[rv sb, iv 2, rv a2, iv 2, iv 2, iv 2, iv c1] [.int 2, .int 2]) (fun t k => XS.iload X12.here hx rfl (hb hby d13_5) rfl k) ?_
    refine own_s T12 (mkF m 44 #[rv sb, iv 2, rv a2, iv 2, iv 2, iv 2, iv c1] []) (fun t k => XS.icmpYes X12.here hx rfl (pc0 := 7) (pc' := 44) rfl (hb hby d13_7) rfl (flt (by decide : ¬ ((2 : Int32) < (2 : Int32)))).2.1 (by decide) (by decide) k) ?_
    refine own_s T12 (mkF m 46 #[rv sb, iv 2, rv a2, iv 2, iv 2, iv 2, iv c1] [.int 2]) (fun t k => XS.iload X12.here hx rfl (hb hby d13_44) rfl k) ?_
    refine own_rI X12 hx hlk Bd.returns (hb hby d13_46) ?_ (by decide) (by decide)
    rw [e12]
    exact ⟨[(.int (nar .byte (c0.toInt8.toInt32))), (.int (nar .byte (c1.toInt8.toInt32)))], rfl, N12, K15, g14, (Or.inr (Or.inr (Or.inl ⟨_, _, rfl, rfl⟩)))⟩
  · have Vp : Arv Z h0 a2 kb .byte (3 : Int32) [(.int (0 : Int32)), (.int (0 : Int32)), (.int (0 : Int32))] (.int (0 : Int32)) := F_1.pad (pad_rep [] (.int (0 : Int32)) 3)
    refine own_s s₁ (mkF m 1 #[rv sb, iv 0, rv a2, iv 0, iv 3, u_, u_] [.int 0]) (fun t k => XS.iconst X0.here hx rfl (hb hby d13_0) k) ?_
    refine own_s s₁ (mkF m 3 #[rv sb, iv 0, rv a2, iv 0, iv 3, iv 0, u_] []) (fun t k => XS.istore X0.here hx rfl (hb hby d13_1) rfl (l' := #[rv sb, iv 0, rv a2, iv 0, iv 3, iv 0, u_]) rfl k) ?_
    refine own_s s₁ (mkF m 5 #[rv sb, iv 0, rv a2, iv 0, iv 3, iv 0, u_] [.int 0]) (fun t k => XS.iload X0.here hx rfl (hb hby d13_3) rfl k) ?_
    refine own_s s₁ (mkF m 7 #[rv sb, iv 0, rv a2, iv 0, iv 3, iv 0, u_] [.int 3, .int 0]) (fun t k => XS.iload X0.here hx rfl (hb hby d13_5) rfl k) ?_
    refine own_s s₁ (mkF m 10 #[rv sb, iv 0, rv a2, iv 0, iv 3, iv 0, u_] []) (fun t k => XS.icmpNo X0.here hx rfl (hb hby d13_7) rfl (tlt (by decide : ((0 : Int32) < (3 : Int32)))).2.1 k) ?_
    refine own_s s₁ (mkF m 11 #[rv sb, iv 0, rv a2, iv 0, iv 3, iv 0, u_] [.ref sb]) (fun t k => XS.aloadN X0.here hx rfl (hb hby d13_10) rfl rfl k) ?_
    refine own_s s₁ (mkF m 12 #[rv sb, iv 0, rv a2, iv 0, iv 3, iv 0, u_] [.int 0, .ref sb]) (fun t k => XS.iloadN X0.here hx rfl (hb hby d13_11) rfl k) ?_
    obtain ⟨cl16, Ar16, qa16, S16, M16, H16, U16⟩ := id F_0
    have hi16 := inb_of S16 (j := (0 : Int32)) ⟨by decide, by decide⟩
    have hat16 := H16.at hi16 (v := (.int c0)) rfl
    refine own_s s₁ (mkF m 13 #[rv sb, iv 0, rv a2, iv 0, iv 3, iv 0, u_] [.int c0]) (fun t k => X0.caload hx (j := (0 : Int32)) (v := (.int c0)) (by rw [e0]; exact Ar16.1) (State.isArrayOf_alike hZ.alike Ar16.2.1) Ar16.2.2 hi16 hat16 (g := (mkF m 12 #[rv sb, iv 0, rv a2, iv 0, iv 3, iv 0, u_] [.int 0, .ref sb])) rfl rfl (hb hby d13_12) t k) ?_
    refine own_s s₁ (mkF m 15 #[rv sb, iv 0, rv a2, iv 0, iv 3, iv 0, iv c0] []) (fun t k => XS.istore X0.here hx rfl (hb hby d13_13) rfl (l' := #[rv sb, iv 0, rv a2, iv 0, iv 3, iv 0, iv c0]) rfl k) ?_
    refine own_s s₁ (mkF m 17 #[rv sb, iv 0, rv a2, iv 0, iv 3, iv 0, iv c0] [.int c0]) (fun t k => XS.iload X0.here hx rfl (hb hby d13_15) rfl k) ?_
    refine own_s s₁ (mkF m 20 #[rv sb, iv 0, rv a2, iv 0, iv 3, iv 0, iv c0] [.int 255, .int c0]) (fun t k => XS.sipush X0.here hx rfl (hb hby d13_17) k) ?_
    refine own_s s₁ (mkF m 26 #[rv sb, iv 0, rv a2, iv 0, iv 3, iv 0, iv c0] []) (fun t k => XS.icmpYes X0.here hx rfl (pc0 := 20) (pc' := 26) rfl (hb hby d13_20) rfl (flt hc0).2.2.2 (by decide) (by decide) k) ?_
    refine own_s s₁ (mkF m 27 #[rv sb, iv 0, rv a2, iv 0, iv 3, iv 0, iv c0] [.ref a2]) (fun t k => XS.aloadN X0.here hx rfl (hb hby d13_26) rfl rfl k) ?_
    refine own_s s₁ (mkF m 28 #[rv sb, iv 0, rv a2, iv 0, iv 3, iv 0, iv c0] [.int 0, .ref a2]) (fun t k => XS.iloadN X0.here hx rfl (hb hby d13_27) rfl k) ?_
    refine own_s s₁ (mkF m 30 #[rv sb, iv 0, rv a2, iv 0, iv 3, iv 0, iv c0] [.int c0, .int 0, .ref a2]) (fun t k => XS.iload X0.here hx rfl (hb hby d13_28) rfl k) ?_
    refine own_s s₁ (mkF m 31 #[rv sb, iv 0, rv a2, iv 0, iv 3, iv 0, iv c0] [.int (c0.toInt8.toInt32), .int 0, .ref a2]) (fun t k => XS.i2b X0.here hx rfl (hb hby d13_30) rfl k) ?_
    obtain ⟨cl17, Ar17, qa17, S17, M17, H17, U17⟩ := id Vp
    obtain ⟨T17, h17, X17, e17, W17, st17⟩ := stB X0 hx hZ e0 Ar17 (j := (0 : Int32)) (inb_of S17 ⟨by decide, by decide⟩) (g := (mkF m 31 #[rv sb, iv 0, rv a2, iv 0, iv 3, iv 0, iv c0] [.int (c0.toInt8.toInt32), .int 0, .ref a2])) rfl rfl (hb hby d13_31)
    have g18 := F_0.other W17 n_sb_a2
    have g19 : Arv Z h17 a2 kb .byte (3 : Int32) [(.int (nar .byte (c0.toInt8.toInt32))), (.int (0 : Int32)), (.int (0 : Int32))] (.int (0 : Int32)) := Arv.set Ar17 qa17 S17 M17 H17 U17 (fits_nar_byte _) W17 0 rfl (Nat.le_of_ble_eq_true rfl)
    have K20 : Keep h0 h17 [a2] := K0.wr W17 (Or.inl (List.mem_of_getElem? (i := 0) rfl))
    have N17 := Fr.snoc X17 N0 o_a2
    have Z17 : n0 ≤ h17.size := (Nat.le_trans Z0 (Nat.le_of_eq W17.size.symm))
    refine own_s T17 (mkF m 32 #[rv sb, iv 0, rv a2, iv 0, iv 3, iv 0, iv c0] []) st17 ?_
    refine own_s T17 (mkF m 35 #[rv sb, iv 1, rv a2, iv 0, iv 3, iv 0, iv c0] []) (fun t k => XS.iinc X17.here hx rfl (hb hby d13_32) rfl (l' := #[rv sb, iv 1, rv a2, iv 0, iv 3, iv 0, iv c0]) rfl k) ?_
    refine own_s T17 (mkF m 38 #[rv sb, iv 1, rv a2, iv 1, iv 3, iv 0, iv c0] []) (fun t k => XS.iinc X17.here hx rfl (hb hby d13_35) rfl (l' := #[rv sb, iv 1, rv a2, iv 1, iv 3, iv 0, iv c0]) rfl k) ?_
    refine own_s T17 (mkF m 41 #[rv sb, iv 1, rv a2, iv 1, iv 3, iv 1, iv c0] []) (fun t k => XS.iinc X17.here hx rfl (hb hby d13_38) rfl (l' := #[rv sb, iv 1, rv a2, iv 1, iv 3, iv 1, iv c0]) rfl k) ?_
    refine own_s T17 (mkF m 3 #[rv sb, iv 1, rv a2, iv 1, iv 3, iv 1, iv c0] []) (fun t k => XS.goto X17.here hx rfl (pc0 := 41) (pc' := 3) rfl (hb hby d13_41) (by decide) (by decide) k) ?_
    refine own_s T17 (mkF m 5 #[rv sb, iv 1, rv a2, iv 1, iv 3, iv 1, iv c0] [.int 1]) (fun t k => XS.iload X17.here hx rfl (hb hby d13_3) rfl k) ?_
    refine own_s T17 (mkF m 7 #[rv sb, iv 1, rv a2, iv 1, iv 3, iv 1, iv c0] [.int 3, .int 1]) (fun t k => XS.iload X17.here hx rfl (hb hby d13_5) rfl k) ?_
    refine own_s T17 (mkF m 10 #[rv sb, iv 1, rv a2, iv 1, iv 3, iv 1, iv c0] []) (fun t k => XS.icmpNo X17.here hx rfl (hb hby d13_7) rfl (tlt (by decide : ((1 : Int32) < (3 : Int32)))).2.1 k) ?_
    refine own_s T17 (mkF m 11 #[rv sb, iv 1, rv a2, iv 1, iv 3, iv 1, iv c0] [.ref sb]) (fun t k => XS.aloadN X17.here hx rfl (hb hby d13_10) rfl rfl k) ?_
    refine own_s T17 (mkF m 12 #[rv sb, iv 1, rv a2, iv 1, iv 3, iv 1, iv c0] [.int 1, .ref sb]) (fun t k => XS.iloadN X17.here hx rfl (hb hby d13_11) rfl k) ?_
    obtain ⟨cl21, Ar21, qa21, S21, M21, H21, U21⟩ := id g18
    have hi21 := inb_of S21 (j := (1 : Int32)) ⟨by decide, by decide⟩
    have hat21 := H21.at hi21 (v := (.int c1)) rfl
    refine own_s T17 (mkF m 13 #[rv sb, iv 1, rv a2, iv 1, iv 3, iv 1, iv c0] [.int c1]) (fun t k => X17.caload hx (j := (1 : Int32)) (v := (.int c1)) (by rw [e17]; exact Ar21.1) (State.isArrayOf_alike hZ.alike Ar21.2.1) Ar21.2.2 hi21 hat21 (g := (mkF m 12 #[rv sb, iv 1, rv a2, iv 1, iv 3, iv 1, iv c0] [.int 1, .ref sb])) rfl rfl (hb hby d13_12) t k) ?_
    refine own_s T17 (mkF m 15 #[rv sb, iv 1, rv a2, iv 1, iv 3, iv 1, iv c1] []) (fun t k => XS.istore X17.here hx rfl (hb hby d13_13) rfl (l' := #[rv sb, iv 1, rv a2, iv 1, iv 3, iv 1, iv c1]) rfl k) ?_
    refine own_s T17 (mkF m 17 #[rv sb, iv 1, rv a2, iv 1, iv 3, iv 1, iv c1] [.int c1]) (fun t k => XS.iload X17.here hx rfl (hb hby d13_15) rfl k) ?_
    refine own_s T17 (mkF m 20 #[rv sb, iv 1, rv a2, iv 1, iv 3, iv 1, iv c1] [.int 255, .int c1]) (fun t k => XS.sipush X17.here hx rfl (hb hby d13_17) k) ?_
    refine own_s T17 (mkF m 26 #[rv sb, iv 1, rv a2, iv 1, iv 3, iv 1, iv c1] []) (fun t k => XS.icmpYes X17.here hx rfl (pc0 := 20) (pc' := 26) rfl (hb hby d13_20) rfl (flt hc1).2.2.2 (by decide) (by decide) k) ?_
    refine own_s T17 (mkF m 27 #[rv sb, iv 1, rv a2, iv 1, iv 3, iv 1, iv c1] [.ref a2]) (fun t k => XS.aloadN X17.here hx rfl (hb hby d13_26) rfl rfl k) ?_
    refine own_s T17 (mkF m 28 #[rv sb, iv 1, rv a2, iv 1, iv 3, iv 1, iv c1] [.int 1, .ref a2]) (fun t k => XS.iloadN X17.here hx rfl (hb hby d13_27) rfl k) ?_
    refine own_s T17 (mkF m 30 #[rv sb, iv 1, rv a2, iv 1, iv 3, iv 1, iv c1] [.int c1, .int 1, .ref a2]) (fun t k => XS.iload X17.here hx rfl (hb hby d13_28) rfl k) ?_
    refine own_s T17 (mkF m 31 #[rv sb, iv 1, rv a2, iv 1, iv 3, iv 1, iv c1] [.int (c1.toInt8.toInt32), .int 1, .ref a2]) (fun t k => XS.i2b X17.here hx rfl (hb hby d13_30) rfl k) ?_
    obtain ⟨cl22, Ar22, qa22, S22, M22, H22, U22⟩ := id g19
    obtain ⟨T22, h22, X22, e22, W22, st22⟩ := stB X17 hx hZ e17 Ar22 (j := (1 : Int32)) (inb_of S22 ⟨by decide, by decide⟩) (g := (mkF m 31 #[rv sb, iv 1, rv a2, iv 1, iv 3, iv 1, iv c1] [.int (c1.toInt8.toInt32), .int 1, .ref a2])) rfl rfl (hb hby d13_31)
    have g23 := g18.other W22 n_sb_a2
    have g24 : Arv Z h22 a2 kb .byte (3 : Int32) [(.int (nar .byte (c0.toInt8.toInt32))), (.int (nar .byte (c1.toInt8.toInt32))), (.int (0 : Int32))] (.int (0 : Int32)) := Arv.set Ar22 qa22 S22 M22 H22 U22 (fits_nar_byte _) W22 1 rfl (Nat.le_of_ble_eq_true rfl)
    have K25 : Keep h0 h22 [a2] := K20.wr W22 (Or.inl (List.mem_of_getElem? (i := 0) rfl))
    have N22 := Fr.snoc X22 N17 o_a2
    have Z22 : n0 ≤ h22.size := (Nat.le_trans Z17 (Nat.le_of_eq W22.size.symm))
    refine own_s T22 (mkF m 32 #[rv sb, iv 1, rv a2, iv 1, iv 3, iv 1, iv c1] []) st22 ?_
    refine own_s T22 (mkF m 35 #[rv sb, iv 2, rv a2, iv 1, iv 3, iv 1, iv c1] []) (fun t k => XS.iinc X22.here hx rfl (hb hby d13_32) rfl (l' := #[rv sb, iv 2, rv a2, iv 1, iv 3, iv 1, iv c1]) rfl k) ?_
    refine own_s T22 (mkF m 38 #[rv sb, iv 2, rv a2, iv 2, iv 3, iv 1, iv c1] []) (fun t k => XS.iinc X22.here hx rfl (hb hby d13_35) rfl (l' := #[rv sb, iv 2, rv a2, iv 2, iv 3, iv 1, iv c1]) rfl k) ?_
    refine own_s T22 (mkF m 41 #[rv sb, iv 2, rv a2, iv 2, iv 3, iv 2, iv c1] []) (fun t k => XS.iinc X22.here hx rfl (hb hby d13_38) rfl (l' := #[rv sb, iv 2, rv a2, iv 2, iv 3, iv 2, iv c1]) rfl k) ?_
    refine own_s T22 (mkF m 3 #[rv sb, iv 2, rv a2, iv 2, iv 3, iv 2, iv c1] []) (fun t k => XS.goto X22.here hx rfl (pc0 := 41) (pc' := 3) rfl (hb hby d13_41) (by decide) (by decide) k) ?_
    refine own_s T22 (mkF m 5 #[rv sb, iv 2, rv a2, iv 2, iv 3, iv 2, iv c1] [.int 2]) (fun t k => XS.iload X22.here hx rfl (hb hby d13_3) rfl k) ?_
    refine own_s T22 (mkF m 7 #[rv sb, iv 2, rv a2, iv 2, iv 3, iv 2, iv c1] [.int 3, .int 2]) (fun t k => XS.iload X22.here hx rfl (hb hby d13_5) rfl k) ?_
    refine own_s T22 (mkF m 10 #[rv sb, iv 2, rv a2, iv 2, iv 3, iv 2, iv c1] []) (fun t k => XS.icmpNo X22.here hx rfl (hb hby d13_7) rfl (tlt (by decide : ((2 : Int32) < (3 : Int32)))).2.1 k) ?_
    refine own_s T22 (mkF m 11 #[rv sb, iv 2, rv a2, iv 2, iv 3, iv 2, iv c1] [.ref sb]) (fun t k => XS.aloadN X22.here hx rfl (hb hby d13_10) rfl rfl k) ?_
    refine own_s T22 (mkF m 12 #[rv sb, iv 2, rv a2, iv 2, iv 3, iv 2, iv c1] [.int 2, .ref sb]) (fun t k => XS.iloadN X22.here hx rfl (hb hby d13_11) rfl k) ?_
    obtain ⟨cl26, Ar26, qa26, S26, M26, H26, U26⟩ := id g23
    have hi26 := inb_of S26 (j := (2 : Int32)) ⟨by decide, by decide⟩
    have hat26 := H26.at hi26 (v := (.int c2)) rfl
    refine own_s T22 (mkF m 13 #[rv sb, iv 2, rv a2, iv 2, iv 3, iv 2, iv c1] [.int c2]) (fun t k => X22.caload hx (j := (2 : Int32)) (v := (.int c2)) (by rw [e22]; exact Ar26.1) (State.isArrayOf_alike hZ.alike Ar26.2.1) Ar26.2.2 hi26 hat26 (g := (mkF m 12 #[rv sb, iv 2, rv a2, iv 2, iv 3, iv 2, iv c1] [.int 2, .ref sb])) rfl rfl (hb hby d13_12) t k) ?_
    refine own_s T22 (mkF m 15 #[rv sb, iv 2, rv a2, iv 2, iv 3, iv 2, iv c2] []) (fun t k => XS.istore X22.here hx rfl (hb hby d13_13) rfl (l' := #[rv sb, iv 2, rv a2, iv 2, iv 3, iv 2, iv c2]) rfl k) ?_
    refine own_s T22 (mkF m 17 #[rv sb, iv 2, rv a2, iv 2, iv 3, iv 2, iv c2] [.int c2]) (fun t k => XS.iload X22.here hx rfl (hb hby d13_15) rfl k) ?_
    refine own_s T22 (mkF m 20 #[rv sb, iv 2, rv a2, iv 2, iv 3, iv 2, iv c2] [.int 255, .int c2]) (fun t k => XS.sipush X22.here hx rfl (hb hby d13_17) k) ?_
    refine own_s T22 (mkF m 26 #[rv sb, iv 2, rv a2, iv 2, iv 3, iv 2, iv c2] []) (fun t k => XS.icmpYes X22.here hx rfl (pc0 := 20) (pc' := 26) rfl (hb hby d13_20) rfl (flt hc2).2.2.2 (by decide) (by decide) k) ?_
    refine own_s T22 (mkF m 27 #[rv sb, iv 2, rv a2, iv 2, iv 3, iv 2, iv c2] [.ref a2]) (fun t k => XS.aloadN X22.here hx rfl (hb hby d13_26) rfl rfl k) ?_
    refine own_s T22 (mkF m 28 #[rv sb, iv 2, rv a2, iv 2, iv 3, iv 2, iv c2] [.int 2, .ref a2]) (fun t k => XS.iloadN X22.here hx rfl (hb hby d13_27) rfl k) ?_
    refine own_s T22 (mkF m 30 #[rv sb, iv 2, rv a2, iv 2, iv 3, iv 2, iv c2] [.int c2, .int 2, .ref a2]) (fun t k => XS.iload X22.here hx rfl (hb hby d13_28) rfl k) ?_
    refine own_s T22 (mkF m 31 #[rv sb, iv 2, rv a2, iv 2, iv 3, iv 2, iv c2] [.int (c2.toInt8.toInt32), .int 2, .ref a2]) (fun t k => XS.i2b X22.here hx rfl (hb hby d13_30) rfl k) ?_
    obtain ⟨cl27, Ar27, qa27, S27, M27, H27, U27⟩ := id g24
    obtain ⟨T27, h27, X27, e27, W27, st27⟩ := stB X22 hx hZ e22 Ar27 (j := (2 : Int32)) (inb_of S27 ⟨by decide, by decide⟩) (g := (mkF m 31 #[rv sb, iv 2, rv a2, iv 2, iv 3, iv 2, iv c2] [.int (c2.toInt8.toInt32), .int 2, .ref a2])) rfl rfl (hb hby d13_31)
    have g28 := g23.other W27 n_sb_a2
    have g29 : Arv Z h27 a2 kb .byte (3 : Int32) [(.int (nar .byte (c0.toInt8.toInt32))), (.int (nar .byte (c1.toInt8.toInt32))), (.int (nar .byte (c2.toInt8.toInt32)))] (.int (0 : Int32)) := Arv.set Ar27 qa27 S27 M27 H27 U27 (fits_nar_byte _) W27 2 rfl (Nat.le_of_ble_eq_true rfl)
    have K30 : Keep h0 h27 [a2] := K25.wr W27 (Or.inl (List.mem_of_getElem? (i := 0) rfl))
    have N27 := Fr.snoc X27 N22 o_a2
    have Z27 : n0 ≤ h27.size := (Nat.le_trans Z22 (Nat.le_of_eq W27.size.symm))
    refine own_s T27 (mkF m 32 #[rv sb, iv 2, rv a2, iv 2, iv 3, iv 2, iv c2] []) st27 ?_
    refine own_s T27 (mkF m 35 #[rv sb, iv 3, rv a2, iv 2, iv 3, iv 2, iv c2] []) (fun t k => XS.iinc X27.here hx rfl (hb hby d13_32) rfl (l' := #[rv sb, iv 3, rv a2, iv 2, iv 3, iv 2, iv c2]) rfl k) ?_
    refine own_s T27 (mkF m 38 #[rv sb, iv 3, rv a2, iv 3, iv 3, iv 2, iv c2] []) (fun t k => XS.iinc X27.here hx rfl (hb hby d13_35) rfl (l' := #[rv sb, iv 3, rv a2, iv 3, iv 3, iv 2, iv c2]) rfl k) ?_
    refine own_s T27 (mkF m 41 #[rv sb, iv 3, rv a2, iv 3, iv 3, iv 3, iv c2] []) (fun t k => XS.iinc X27.here hx rfl (hb hby d13_38) rfl (l' := #[rv sb, iv 3, rv a2, iv 3, iv 3, iv 3, iv c2]) rfl k) ?_
    refine own_s T27 (mkF m 3 #[rv sb, iv 3, rv a2, iv 3, iv 3, iv 3, iv c2] []) (fun t k => XS.goto X27.here hx rfl (pc0 := 41) (pc' := 3) rfl (hb hby d13_41) (by decide) (by decide) k) ?_
    refine own_s T27 (mkF m 5 #[rv sb, iv 3, rv a2, iv 3, iv 3, iv 3, iv c2] [.int 3]) (fun t k => XS.iload X27.here hx rfl (hb hby d13_3) rfl k) ?_
    refine own_s T27 (mkF m 7 #[rv sb, iv 3, rv a2, iv 3, iv 3, iv 3, iv c2] [.int 3, .int 3]) (fun t k => XS.iload X27.here hx rfl (hb hby d13_5) rfl k) ?_
    refine own_s T27 (mkF m 44 #[rv sb, iv 3, rv a2, iv 3, iv 3, iv 3, iv c2] []) (fun t k => XS.icmpYes X27.here hx rfl (pc0 := 7) (pc' := 44) rfl (hb hby d13_7) rfl (flt (by decide : ¬ ((3 : Int32) < (3 : Int32)))).2.1 (by decide) (by decide) k) ?_
    refine own_s T27 (mkF m 46 #[rv sb, iv 3, rv a2, iv 3, iv 3, iv 3, iv c2] [.int 3]) (fun t k => XS.iload X27.here hx rfl (hb hby d13_44) rfl k) ?_
    refine own_rI X27 hx hlk Bd.returns (hb hby d13_46) ?_ (by decide) (by decide)
    rw [e27]
    exact ⟨[(.int (nar .byte (c0.toInt8.toInt32))), (.int (nar .byte (c1.toInt8.toInt32))), (.int (nar .byte (c2.toInt8.toInt32)))], rfl, N27, K30, g29, (Or.inr (Or.inr (Or.inr (Or.inl ⟨_, _, _, rfl, rfl⟩))))⟩
  · have Vp : Arv Z h0 a2 kb .byte (4 : Int32) [(.int (0 : Int32)), (.int (0 : Int32)), (.int (0 : Int32)), (.int (0 : Int32))] (.int (0 : Int32)) := F_1.pad (pad_rep [] (.int (0 : Int32)) 4)
    refine own_s s₁ (mkF m 1 #[rv sb, iv 0, rv a2, iv 0, iv 4, u_, u_] [.int 0]) (fun t k => XS.iconst X0.here hx rfl (hb hby d13_0) k) ?_
    refine own_s s₁ (mkF m 3 #[rv sb, iv 0, rv a2, iv 0, iv 4, iv 0, u_] []) (fun t k => XS.istore X0.here hx rfl (hb hby d13_1) rfl (l' := #[rv sb, iv 0, rv a2, iv 0, iv 4, iv 0, u_]) rfl k) ?_
    refine own_s s₁ (mkF m 5 #[rv sb, iv 0, rv a2, iv 0, iv 4, iv 0, u_] [.int 0]) (fun t k => XS.iload X0.here hx rfl (hb hby d13_3) rfl k) ?_
    refine own_s s₁ (mkF m 7 #[rv sb, iv 0, rv a2, iv 0, iv 4, iv 0, u_] [.int 4, .int 0]) (fun t k => XS.iload X0.here hx rfl (hb hby d13_5) rfl k) ?_
    refine own_s s₁ (mkF m 10 #[rv sb, iv 0, rv a2, iv 0, iv 4, iv 0, u_] []) (fun t k => XS.icmpNo X0.here hx rfl (hb hby d13_7) rfl (tlt (by decide : ((0 : Int32) < (4 : Int32)))).2.1 k) ?_
    refine own_s s₁ (mkF m 11 #[rv sb, iv 0, rv a2, iv 0, iv 4, iv 0, u_] [.ref sb]) (fun t k => XS.aloadN X0.here hx rfl (hb hby d13_10) rfl rfl k) ?_
    refine own_s s₁ (mkF m 12 #[rv sb, iv 0, rv a2, iv 0, iv 4, iv 0, u_] [.int 0, .ref sb]) (fun t k => XS.iloadN X0.here hx rfl (hb hby d13_11) rfl k) ?_
    obtain ⟨cl31, Ar31, qa31, S31, M31, H31, U31⟩ := id F_0
    have hi31 := inb_of S31 (j := (0 : Int32)) ⟨by decide, by decide⟩
    have hat31 := H31.at hi31 (v := (.int c0)) rfl
    refine own_s s₁ (mkF m 13 #[rv sb, iv 0, rv a2, iv 0, iv 4, iv 0, u_] [.int c0]) (fun t k => X0.caload hx (j := (0 : Int32)) (v := (.int c0)) (by rw [e0]; exact Ar31.1) (State.isArrayOf_alike hZ.alike Ar31.2.1) Ar31.2.2 hi31 hat31 (g := (mkF m 12 #[rv sb, iv 0, rv a2, iv 0, iv 4, iv 0, u_] [.int 0, .ref sb])) rfl rfl (hb hby d13_12) t k) ?_
    refine own_s s₁ (mkF m 15 #[rv sb, iv 0, rv a2, iv 0, iv 4, iv 0, iv c0] []) (fun t k => XS.istore X0.here hx rfl (hb hby d13_13) rfl (l' := #[rv sb, iv 0, rv a2, iv 0, iv 4, iv 0, iv c0]) rfl k) ?_
    refine own_s s₁ (mkF m 17 #[rv sb, iv 0, rv a2, iv 0, iv 4, iv 0, iv c0] [.int c0]) (fun t k => XS.iload X0.here hx rfl (hb hby d13_15) rfl k) ?_
    refine own_s s₁ (mkF m 20 #[rv sb, iv 0, rv a2, iv 0, iv 4, iv 0, iv c0] [.int 255, .int c0]) (fun t k => XS.sipush X0.here hx rfl (hb hby d13_17) k) ?_
    refine own_s s₁ (mkF m 26 #[rv sb, iv 0, rv a2, iv 0, iv 4, iv 0, iv c0] []) (fun t k => XS.icmpYes X0.here hx rfl (pc0 := 20) (pc' := 26) rfl (hb hby d13_20) rfl (flt hc0).2.2.2 (by decide) (by decide) k) ?_
    refine own_s s₁ (mkF m 27 #[rv sb, iv 0, rv a2, iv 0, iv 4, iv 0, iv c0] [.ref a2]) (fun t k => XS.aloadN X0.here hx rfl (hb hby d13_26) rfl rfl k) ?_
    refine own_s s₁ (mkF m 28 #[rv sb, iv 0, rv a2, iv 0, iv 4, iv 0, iv c0] [.int 0, .ref a2]) (fun t k => XS.iloadN X0.here hx rfl (hb hby d13_27) rfl k) ?_
    refine own_s s₁ (mkF m 30 #[rv sb, iv 0, rv a2, iv 0, iv 4, iv 0, iv c0] [.int c0, .int 0, .ref a2]) (fun t k => XS.iload X0.here hx rfl (hb hby d13_28) rfl k) ?_
    refine own_s s₁ (mkF m 31 #[rv sb, iv 0, rv a2, iv 0, iv 4, iv 0, iv c0] [.int (c0.toInt8.toInt32), .int 0, .ref a2]) (fun t k => XS.i2b X0.here hx rfl (hb hby d13_30) rfl k) ?_
    obtain ⟨cl32, Ar32, qa32, S32, M32, H32, U32⟩ := id Vp
    obtain ⟨T32, h32, X32, e32, W32, st32⟩ := stB X0 hx hZ e0 Ar32 (j := (0 : Int32)) (inb_of S32 ⟨by decide, by decide⟩) (g := (mkF m 31 #[rv sb, iv 0, rv a2, iv 0, iv 4, iv 0, iv c0] [.int (c0.toInt8.toInt32), .int 0, .ref a2])) rfl rfl (hb hby d13_31)
    have g33 := F_0.other W32 n_sb_a2
    have g34 : Arv Z h32 a2 kb .byte (4 : Int32) [(.int (nar .byte (c0.toInt8.toInt32))), (.int (0 : Int32)), (.int (0 : Int32)), (.int (0 : Int32))] (.int (0 : Int32)) := Arv.set Ar32 qa32 S32 M32 H32 U32 (fits_nar_byte _) W32 0 rfl (Nat.le_of_ble_eq_true rfl)
    have K35 : Keep h0 h32 [a2] := K0.wr W32 (Or.inl (List.mem_of_getElem? (i := 0) rfl))
    have N32 := Fr.snoc X32 N0 o_a2
    have Z32 : n0 ≤ h32.size := (Nat.le_trans Z0 (Nat.le_of_eq W32.size.symm))
    refine own_s T32 (mkF m 32 #[rv sb, iv 0, rv a2, iv 0, iv 4, iv 0, iv c0] []) st32 ?_
    refine own_s T32 (mkF m 35 #[rv sb, iv 1, rv a2, iv 0, iv 4, iv 0, iv c0] []) (fun t k => XS.iinc X32.here hx rfl (hb hby d13_32) rfl (l' := #[rv sb, iv 1, rv a2, iv 0, iv 4, iv 0, iv c0]) rfl k) ?_
    refine own_s T32 (mkF m 38 #[rv sb, iv 1, rv a2, iv 1, iv 4, iv 0, iv c0] []) (fun t k => XS.iinc X32.here hx rfl (hb hby d13_35) rfl (l' := #[rv sb, iv 1, rv a2, iv 1, iv 4, iv 0, iv c0]) rfl k) ?_
    refine own_s T32 (mkF m 41 #[rv sb, iv 1, rv a2, iv 1, iv 4, iv 1, iv c0] []) (fun t k => XS.iinc X32.here hx rfl (hb hby d13_38) rfl (l' := #[rv sb, iv 1, rv a2, iv 1, iv 4, iv 1, iv c0]) rfl k) ?_
    refine own_s T32 (mkF m 3 #[rv sb, iv 1, rv a2, iv 1, iv 4, iv 1, iv c0] []) (fun t k => XS.goto X32.here hx rfl (pc0 := 41) (pc' := 3) rfl (hb hby d13_41) (by decide) (by decide) k) ?_
    refine own_s T32 (mkF m 5 #[rv sb, iv 1, rv a2, iv 1, iv 4, iv 1, iv c0] [.int 1]) (fun t k => XS.iload X32.here hx rfl (hb hby d13_3) rfl k) ?_
    refine own_s T32 (mkF m 7 #[rv sb, iv 1, rv a2, iv 1, iv 4, iv 1, iv c0] [.int 4, .int 1]) (fun t k => XS.iload X32.here hx rfl (hb hby d13_5) rfl k) ?_
    refine own_s T32 (mkF m 10 #[rv sb, iv 1, rv a2, iv 1, iv 4, iv 1, iv c0] []) (fun t k => XS.icmpNo X32.here hx rfl (hb hby d13_7) rfl (tlt (by decide : ((1 : Int32) < (4 : Int32)))).2.1 k) ?_
    refine own_s T32 (mkF m 11 #[rv sb, iv 1, rv a2, iv 1, iv 4, iv 1, iv c0] [.ref sb]) (fun t k => XS.aloadN X32.here hx rfl (hb hby d13_10) rfl rfl k) ?_
    refine own_s T32 (mkF m 12 #[rv sb, iv 1, rv a2, iv 1, iv 4, iv 1, iv c0] [.int 1, .ref sb]) (fun t k => XS.iloadN X32.here hx rfl (hb hby d13_11) rfl k) ?_
    obtain ⟨cl36, Ar36, qa36, S36, M36, H36, U36⟩ := id g33
    have hi36 := inb_of S36 (j := (1 : Int32)) ⟨by decide, by decide⟩
    have hat36 := H36.at hi36 (v := (.int c1)) rfl
    refine own_s T32 (mkF m 13 #[rv sb, iv 1, rv a2, iv 1, iv 4, iv 1, iv c0] [.int c1]) (fun t k => X32.caload hx (j := (1 : Int32)) (v := (.int c1)) (by rw [e32]; exact Ar36.1) (State.isArrayOf_alike hZ.alike Ar36.2.1) Ar36.2.2 hi36 hat36 (g := (mkF m 12 #[rv sb, iv 1, rv a2, iv 1, iv 4, iv 1, iv c0] [.int 1, .ref sb])) rfl rfl (hb hby d13_12) t k) ?_
    refine own_s T32 (mkF m 15 #[rv sb, iv 1, rv a2, iv 1, iv 4, iv 1, iv c1] []) (fun t k => XS.istore X32.here hx rfl (hb hby d13_13) rfl (l' := #[rv sb, iv 1, rv a2, iv 1, iv 4, iv 1, iv c1]) rfl k) ?_
    refine own_s T32 (mkF m 17 #[rv sb, iv 1, rv a2, iv 1, iv 4, iv 1, iv c1] [.int c1]) (fun t k => XS.iload X32.here hx rfl (hb hby d13_15) rfl k) ?_
    refine own_s T32 (mkF m 20 #[rv sb, iv 1, rv a2, iv 1, iv 4, iv 1, iv c1] [.int 255, .int c1]) (fun t k => XS.sipush X32.here hx rfl (hb hby d13_17) k) ?_
    refine own_s T32 (mkF m 26 #[rv sb, iv 1, rv a2, iv 1, iv 4, iv 1, iv c1] []) (fun t k => XS.icmpYes X32.here hx rfl (pc0 := 20) (pc' := 26) rfl (hb hby d13_20) rfl (flt hc1).2.2.2 (by decide) (by decide) k) ?_
    refine own_s T32 (mkF m 27 #[rv sb, iv 1, rv a2, iv 1, iv 4, iv 1, iv c1] [.ref a2]) (fun t k => XS.aloadN X32.here hx rfl (hb hby d13_26) rfl rfl k) ?_
    refine own_s T32 (mkF m 28 #[rv sb, iv 1, rv a2, iv 1, iv 4, iv 1, iv c1] [.int 1, .ref a2]) (fun t k => XS.iloadN X32.here hx rfl (hb hby d13_27) rfl k) ?_
    refine own_s T32 (mkF m 30 #[rv sb, iv 1, rv a2, iv 1, iv 4, iv 1, iv c1] [.int c1, .int 1, .ref a2]) (fun t k => XS.iload X32.here hx rfl (hb hby d13_28) rfl k) ?_
    refine own_s T32 (mkF m 31 #[rv sb, iv 1, rv a2, iv 1, iv 4, iv 1, iv c1] [.int (c1.toInt8.toInt32), .int 1, .ref a2]) (fun t k => XS.i2b X32.here hx rfl (hb hby d13_30) rfl k) ?_
    obtain ⟨cl37, Ar37, qa37, S37, M37, H37, U37⟩ := id g34
    obtain ⟨T37, h37, X37, e37, W37, st37⟩ := stB X32 hx hZ e32 Ar37 (j := (1 : Int32)) (inb_of S37 ⟨by decide, by decide⟩) (g := (mkF m 31 #[rv sb, iv 1, rv a2, iv 1, iv 4, iv 1, iv c1] [.int (c1.toInt8.toInt32), .int 1, .ref a2])) rfl rfl (hb hby d13_31)
    have g38 := g33.other W37 n_sb_a2
    have g39 : Arv Z h37 a2 kb .byte (4 : Int32) [(.int (nar .byte (c0.toInt8.toInt32))), (.int (nar .byte (c1.toInt8.toInt32))), (.int (0 : Int32)), (.int (0 : Int32))] (.int (0 : Int32)) := Arv.set Ar37 qa37 S37 M37 H37 U37 (fits_nar_byte _) W37 1 rfl (Nat.le_of_ble_eq_true rfl)
    have K40 : Keep h0 h37 [a2] := K35.wr W37 (Or.inl (List.mem_of_getElem? (i := 0) rfl))
    have N37 := Fr.snoc X37 N32 o_a2
    have Z37 : n0 ≤ h37.size := (Nat.le_trans Z32 (Nat.le_of_eq W37.size.symm))
    refine own_s T37 (mkF m 32 #[rv sb, iv 1, rv a2, iv 1, iv 4, iv 1, iv c1] []) st37 ?_
    refine own_s T37 (mkF m 35 #[rv sb, iv 2, rv a2, iv 1, iv 4, iv 1, iv c1] []) (fun t k => XS.iinc X37.here hx rfl (hb hby d13_32) rfl (l' := #[rv sb, iv 2, rv a2, iv 1, iv 4, iv 1, iv c1]) rfl k) ?_
    refine own_s T37 (mkF m 38 #[rv sb, iv 2, rv a2, iv 2, iv 4, iv 1, iv c1] []) (fun t k => XS.iinc X37.here hx rfl (hb hby d13_35) rfl (l' := #[rv sb, iv 2, rv a2, iv 2, iv 4, iv 1, iv c1]) rfl k) ?_
    refine own_s T37 (mkF m 41 #[rv sb, iv 2, rv a2, iv 2, iv 4, iv 2, iv c1] []) (fun t k => XS.iinc X37.here hx rfl (hb hby d13_38) rfl (l' := #[rv sb, iv 2, rv a2, iv 2, iv 4, iv 2, iv c1]) rfl k) ?_
    refine own_s T37 (mkF m 3 #[rv sb, iv 2, rv a2, iv 2, iv 4, iv 2, iv c1] []) (fun t k => XS.goto X37.here hx rfl (pc0 := 41) (pc' := 3) rfl (hb hby d13_41) (by decide) (by decide) k) ?_
    refine own_s T37 (mkF m 5 #[rv sb, iv 2, rv a2, iv 2, iv 4, iv 2, iv c1] [.int 2]) (fun t k => XS.iload X37.here hx rfl (hb hby d13_3) rfl k) ?_
    refine own_s T37 (mkF m 7 #[rv sb, iv 2, rv a2, iv 2, iv 4, iv 2, iv c1] [.int 4, .int 2]) (fun t k => XS.iload X37.here hx rfl (hb hby d13_5) rfl k) ?_
    refine own_s T37 (mkF m 10 #[rv sb, iv 2, rv a2, iv 2, iv 4, iv 2, iv c1] []) (fun t k => XS.icmpNo X37.here hx rfl (hb hby d13_7) rfl (tlt (by decide : ((2 : Int32) < (4 : Int32)))).2.1 k) ?_
    refine own_s T37 (mkF m 11 #[rv sb, iv 2, rv a2, iv 2, iv 4, iv 2, iv c1] [.ref sb]) (fun t k => XS.aloadN X37.here hx rfl (hb hby d13_10) rfl rfl k) ?_
    refine own_s T37 (mkF m 12 #[rv sb, iv 2, rv a2, iv 2, iv 4, iv 2, iv c1] [.int 2, .ref sb]) (fun t k => XS.iloadN X37.here hx rfl (hb hby d13_11) rfl k) ?_
    obtain ⟨cl41, Ar41, qa41, S41, M41, H41, U41⟩ := id g38
    have hi41 := inb_of S41 (j := (2 : Int32)) ⟨by decide, by decide⟩
    have hat41 := H41.at hi41 (v := (.int c2)) rfl
    refine own_s T37 (mkF m 13 #[rv sb, iv 2, rv a2, iv 2, iv 4, iv 2, iv c1] [.int c2]) (fun t k => X37.caload hx (j := (2 : Int32)) (v := (.int c2)) (by rw [e37]; exact Ar41.1) (State.isArrayOf_alike hZ.alike Ar41.2.1) Ar41.2.2 hi41 hat41 (g := (mkF m 12 #[rv sb, iv 2, rv a2, iv 2, iv 4, iv 2, iv c1] [.int 2, .ref sb])) rfl rfl (hb hby d13_12) t k) ?_
    refine own_s T37 (mkF m 15 #[rv sb, iv 2, rv a2, iv 2, iv 4, iv 2, iv c2] []) (fun t k => XS.istore X37.here hx rfl (hb hby d13_13) rfl (l' := #[rv sb, iv 2, rv a2, iv 2, iv 4, iv 2, iv c2]) rfl k) ?_
    refine own_s T37 (mkF m 17 #[rv sb, iv 2, rv a2, iv 2, iv 4, iv 2, iv c2] [.int c2]) (fun t k => XS.iload X37.here hx rfl (hb hby d13_15) rfl k) ?_
    refine own_s T37 (mkF m 20 #[rv sb, iv 2, rv a2, iv 2, iv 4, iv 2, iv c2] [.int 255, .int c2]) (fun t k => XS.sipush X37.here hx rfl (hb hby d13_17) k) ?_
    refine own_s T37 (mkF m 26 #[rv sb, iv 2, rv a2, iv 2, iv 4, iv 2, iv c2] []) (fun t k => XS.icmpYes X37.here hx rfl (pc0 := 20) (pc' := 26) rfl (hb hby d13_20) rfl (flt hc2).2.2.2 (by decide) (by decide) k) ?_
    refine own_s T37 (mkF m 27 #[rv sb, iv 2, rv a2, iv 2, iv 4, iv 2, iv c2] [.ref a2]) (fun t k => XS.aloadN X37.here hx rfl (hb hby d13_26) rfl rfl k) ?_
    refine own_s T37 (mkF m 28 #[rv sb, iv 2, rv a2, iv 2, iv 4, iv 2, iv c2] [.int 2, .ref a2]) (fun t k => XS.iloadN X37.here hx rfl (hb hby d13_27) rfl k) ?_
    refine own_s T37 (mkF m 30 #[rv sb, iv 2, rv a2, iv 2, iv 4, iv 2, iv c2] [.int c2, .int 2, .ref a2]) (fun t k => XS.iload X37.here hx rfl (hb hby d13_28) rfl k) ?_
    refine own_s T37 (mkF m 31 #[rv sb, iv 2, rv a2, iv 2, iv 4, iv 2, iv c2] [.int (c2.toInt8.toInt32), .int 2, .ref a2]) (fun t k => XS.i2b X37.here hx rfl (hb hby d13_30) rfl k) ?_
    obtain ⟨cl42, Ar42, qa42, S42, M42, H42, U42⟩ := id g39
    obtain ⟨T42, h42, X42, e42, W42, st42⟩ := stB X37 hx hZ e37 Ar42 (j := (2 : Int32)) (inb_of S42 ⟨by decide, by decide⟩) (g := (mkF m 31 #[rv sb, iv 2, rv a2, iv 2, iv 4, iv 2, iv c2] [.int (c2.toInt8.toInt32), .int 2, .ref a2])) rfl rfl (hb hby d13_31)
    have g43 := g38.other W42 n_sb_a2
    have g44 : Arv Z h42 a2 kb .byte (4 : Int32) [(.int (nar .byte (c0.toInt8.toInt32))), (.int (nar .byte (c1.toInt8.toInt32))), (.int (nar .byte (c2.toInt8.toInt32))), (.int (0 : Int32))] (.int (0 : Int32)) := Arv.set Ar42 qa42 S42 M42 H42 U42 (fits_nar_byte _) W42 2 rfl (Nat.le_of_ble_eq_true rfl)
    have K45 : Keep h0 h42 [a2] := K40.wr W42 (Or.inl (List.mem_of_getElem? (i := 0) rfl))
    have N42 := Fr.snoc X42 N37 o_a2
    have Z42 : n0 ≤ h42.size := (Nat.le_trans Z37 (Nat.le_of_eq W42.size.symm))
    refine own_s T42 (mkF m 32 #[rv sb, iv 2, rv a2, iv 2, iv 4, iv 2, iv c2] []) st42 ?_
    refine own_s T42 (mkF m 35 #[rv sb, iv 3, rv a2, iv 2, iv 4, iv 2, iv c2] []) (fun t k => XS.iinc X42.here hx rfl (hb hby d13_32) rfl (l' := #[rv sb, iv 3, rv a2, iv 2, iv 4, iv 2, iv c2]) rfl k) ?_
    refine own_s T42 (mkF m 38 #[rv sb, iv 3, rv a2, iv 3, iv 4, iv 2, iv c2] []) (fun t k => XS.iinc X42.here hx rfl (hb hby d13_35) rfl (l' := #[rv sb, iv 3, rv a2, iv 3, iv 4, iv 2, iv c2]) rfl k) ?_
    refine own_s T42 (mkF m 41 #[rv sb, iv 3, rv a2, iv 3, iv 4, iv 3, iv c2] []) (fun t k => XS.iinc X42.here hx rfl (hb hby d13_38) rfl (l' := #[rv sb, iv 3, rv a2, iv 3, iv 4, iv 3, iv c2]) rfl k) ?_
    refine own_s T42 (mkF m 3 #[rv sb, iv 3, rv a2, iv 3, iv 4, iv 3, iv c2] []) (fun t k => XS.goto X42.here hx rfl (pc0 := 41) (pc' := 3) rfl (hb hby d13_41) (by decide) (by decide) k) ?_
    refine own_s T42 (mkF m 5 #[rv sb, iv 3, rv a2, iv 3, iv 4, iv 3, iv c2] [.int 3]) (fun t k => XS.iload X42.here hx rfl (hb hby d13_3) rfl k) ?_
    refine own_s T42 (mkF m 7 #[rv sb, iv 3, rv a2, iv 3, iv 4, iv 3, iv c2] [.int 4, .int 3]) (fun t k => XS.iload X42.here hx rfl (hb hby d13_5) rfl k) ?_
    refine own_s T42 (mkF m 10 #[rv sb, iv 3, rv a2, iv 3, iv 4, iv 3, iv c2] []) (fun t k => XS.icmpNo X42.here hx rfl (hb hby d13_7) rfl (tlt (by decide : ((3 : Int32) < (4 : Int32)))).2.1 k) ?_
    refine own_s T42 (mkF m 11 #[rv sb, iv 3, rv a2, iv 3, iv 4, iv 3, iv c2] [.ref sb]) (fun t k => XS.aloadN X42.here hx rfl (hb hby d13_10) rfl rfl k) ?_
    refine own_s T42 (mkF m 12 #[rv sb, iv 3, rv a2, iv 3, iv 4, iv 3, iv c2] [.int 3, .ref sb]) (fun t k => XS.iloadN X42.here hx rfl (hb hby d13_11) rfl k) ?_
    obtain ⟨cl46, Ar46, qa46, S46, M46, H46, U46⟩ := id g43
    have hi46 := inb_of S46 (j := (3 : Int32)) ⟨by decide, by decide⟩
    have hat46 := H46.at hi46 (v := (.int c3)) rfl
    refine own_s T42 (mkF m 13 #[rv sb, iv 3, rv a2, iv 3, iv 4, iv 3, iv c2] [.int c3]) (fun t k => X42.caload hx (j := (3 : Int32)) (v := (.int c3)) (by rw [e42]; exact Ar46.1) (State.isArrayOf_alike hZ.alike Ar46.2.1) Ar46.2.2 hi46 hat46 (g := (mkF m 12 #[rv sb, iv 3, rv a2, iv 3, iv 4, iv 3, iv c2] [.int 3, .ref sb])) rfl rfl (hb hby d13_12) t k) ?_
    refine own_s T42 (mkF m 15 #[rv sb, iv 3, rv a2, iv 3, iv 4, iv 3, iv c3] []) (fun t k => XS.istore X42.here hx rfl (hb hby d13_13) rfl (l' := #[rv sb, iv 3, rv a2, iv 3, iv 4, iv 3, iv c3]) rfl k) ?_
    refine own_s T42 (mkF m 17 #[rv sb, iv 3, rv a2, iv 3, iv 4, iv 3, iv c3] [.int c3]) (fun t k => XS.iload X42.here hx rfl (hb hby d13_15) rfl k) ?_
    refine own_s T42 (mkF m 20 #[rv sb, iv 3, rv a2, iv 3, iv 4, iv 3, iv c3] [.int 255, .int c3]) (fun t k => XS.sipush X42.here hx rfl (hb hby d13_17) k) ?_
    refine own_s T42 (mkF m 26 #[rv sb, iv 3, rv a2, iv 3, iv 4, iv 3, iv c3] []) (fun t k => XS.icmpYes X42.here hx rfl (pc0 := 20) (pc' := 26) rfl (hb hby d13_20) rfl (flt hc3).2.2.2 (by decide) (by decide) k) ?_
    refine own_s T42 (mkF m 27 #[rv sb, iv 3, rv a2, iv 3, iv 4, iv 3, iv c3] [.ref a2]) (fun t k => XS.aloadN X42.here hx rfl (hb hby d13_26) rfl rfl k) ?_
    refine own_s T42 (mkF m 28 #[rv sb, iv 3, rv a2, iv 3, iv 4, iv 3, iv c3] [.int 3, .ref a2]) (fun t k => XS.iloadN X42.here hx rfl (hb hby d13_27) rfl k) ?_
    refine own_s T42 (mkF m 30 #[rv sb, iv 3, rv a2, iv 3, iv 4, iv 3, iv c3] [.int c3, .int 3, .ref a2]) (fun t k => XS.iload X42.here hx rfl (hb hby d13_28) rfl k) ?_
    refine own_s T42 (mkF m 31 #[rv sb, iv 3, rv a2, iv 3, iv 4, iv 3, iv c3] [.int (c3.toInt8.toInt32), .int 3, .ref a2]) (fun t k => XS.i2b X42.here hx rfl (hb hby d13_30) rfl k) ?_
    obtain ⟨cl47, Ar47, qa47, S47, M47, H47, U47⟩ := id g44
    obtain ⟨T47, h47, X47, e47, W47, st47⟩ := stB X42 hx hZ e42 Ar47 (j := (3 : Int32)) (inb_of S47 ⟨by decide, by decide⟩) (g := (mkF m 31 #[rv sb, iv 3, rv a2, iv 3, iv 4, iv 3, iv c3] [.int (c3.toInt8.toInt32), .int 3, .ref a2])) rfl rfl (hb hby d13_31)
    have g48 := g43.other W47 n_sb_a2
    have g49 : Arv Z h47 a2 kb .byte (4 : Int32) [(.int (nar .byte (c0.toInt8.toInt32))), (.int (nar .byte (c1.toInt8.toInt32))), (.int (nar .byte (c2.toInt8.toInt32))), (.int (nar .byte (c3.toInt8.toInt32)))] (.int (0 : Int32)) := Arv.set Ar47 qa47 S47 M47 H47 U47 (fits_nar_byte _) W47 3 rfl (Nat.le_of_ble_eq_true rfl)
    have K50 : Keep h0 h47 [a2] := K45.wr W47 (Or.inl (List.mem_of_getElem? (i := 0) rfl))
    have N47 := Fr.snoc X47 N42 o_a2
    have Z47 : n0 ≤ h47.size := (Nat.le_trans Z42 (Nat.le_of_eq W47.size.symm))
    refine own_s T47 (mkF m 32 #[rv sb, iv 3, rv a2, iv 3, iv 4, iv 3, iv c3] []) st47 ?_
    refine own_s T47 (mkF m 35 #[rv sb, iv 4, rv a2, iv 3, iv 4, iv 3, iv c3] []) (fun t k => XS.iinc X47.here hx rfl (hb hby d13_32) rfl (l' := #[rv sb, iv 4, rv a2, iv 3, iv 4, iv 3, iv c3]) rfl k) ?_
    refine own_s T47 (mkF m 38 #[rv sb, iv 4, rv a2, iv 4, iv 4, iv 3, iv c3] []) (fun t k => XS.iinc X47.here hx rfl (hb hby d13_35) rfl (l' := #[rv sb, iv 4, rv a2, iv 4, iv 4, iv 3, iv c3]) rfl k) ?_
    refine own_s T47 (mkF m 41 #[rv sb, iv 4, rv a2, iv 4, iv 4, iv 4, iv c3] []) (fun t k => XS.iinc X47.here hx rfl (hb hby d13_38) rfl (l' := #[rv sb, iv 4, rv a2, iv 4, iv 4, iv 4, iv c3]) rfl k) ?_
    refine own_s T47 (mkF m 3 #[rv sb, iv 4, rv a2, iv 4, iv 4, iv 4, iv c3] []) (fun t k => XS.goto X47.here hx rfl (pc0 := 41) (pc' := 3) rfl (hb hby d13_41) (by decide) (by decide) k) ?_
    refine own_s T47 (mkF m 5 #[rv sb, iv 4, rv a2, iv 4, iv 4, iv 4, iv c3] [.int 4]) (fun t k => XS.iload X47.here hx rfl (hb hby d13_3) rfl k) ?_
    refine own_s T47 (mkF m 7 #[rv sb, iv 4, rv a2, iv 4, iv 4, iv 4, iv c3] [.int 4, .int 4]) (fun t k => XS.iload X47.here hx rfl (hb hby d13_5) rfl k) ?_
    refine own_s T47 (mkF m 44 #[rv sb, iv 4, rv a2, iv 4, iv 4, iv 4, iv c3] []) (fun t k => XS.icmpYes X47.here hx rfl (pc0 := 7) (pc' := 44) rfl (hb hby d13_7) rfl (flt (by decide : ¬ ((4 : Int32) < (4 : Int32)))).2.1 (by decide) (by decide) k) ?_
    refine own_s T47 (mkF m 46 #[rv sb, iv 4, rv a2, iv 4, iv 4, iv 4, iv c3] [.int 4]) (fun t k => XS.iload X47.here hx rfl (hb hby d13_44) rfl k) ?_
    refine own_rI X47 hx hlk Bd.returns (hb hby d13_46) ?_ (by decide) (by decide)
    rw [e47]
    exact ⟨[(.int (nar .byte (c0.toInt8.toInt32))), (.int (nar .byte (c1.toInt8.toInt32))), (.int (nar .byte (c2.toInt8.toInt32))), (.int (nar .byte (c3.toInt8.toInt32)))], rfl, N47, K50, g49, (Or.inr (Or.inr (Or.inr (Or.inr (Or.inl ⟨_, _, _, _, rfl, rfl⟩)))))⟩
  · have Vp : Arv Z h0 a2 kb .byte (5 : Int32) [(.int (0 : Int32)), (.int (0 : Int32)), (.int (0 : Int32)), (.int (0 : Int32)), (.int (0 : Int32))] (.int (0 : Int32)) := F_1.pad (pad_rep [] (.int (0 : Int32)) 5)
    refine own_s s₁ (mkF m 1 #[rv sb, iv 0, rv a2, iv 0, iv 5, u_, u_] [.int 0]) (fun t k => XS.iconst X0.here hx rfl (hb hby d13_0) k) ?_
    refine own_s s₁ (mkF m 3 #[rv sb, iv 0, rv a2, iv 0, iv 5, iv 0, u_] []) (fun t k => XS.istore X0.here hx rfl (hb hby d13_1) rfl (l' := #[rv sb, iv 0, rv a2, iv 0, iv 5, iv 0, u_]) rfl k) ?_
    refine own_s s₁ (mkF m 5 #[rv sb, iv 0, rv a2, iv 0, iv 5, iv 0, u_] [.int 0]) (fun t k => XS.iload X0.here hx rfl (hb hby d13_3) rfl k) ?_
    refine own_s s₁ (mkF m 7 #[rv sb, iv 0, rv a2, iv 0, iv 5, iv 0, u_] [.int 5, .int 0]) (fun t k => XS.iload X0.here hx rfl (hb hby d13_5) rfl k) ?_
    refine own_s s₁ (mkF m 10 #[rv sb, iv 0, rv a2, iv 0, iv 5, iv 0, u_] []) (fun t k => XS.icmpNo X0.here hx rfl (hb hby d13_7) rfl (tlt (by decide : ((0 : Int32) < (5 : Int32)))).2.1 k) ?_
    refine own_s s₁ (mkF m 11 #[rv sb, iv 0, rv a2, iv 0, iv 5, iv 0, u_] [.ref sb]) (fun t k => XS.aloadN X0.here hx rfl (hb hby d13_10) rfl rfl k) ?_
    refine own_s s₁ (mkF m 12 #[rv sb, iv 0, rv a2, iv 0, iv 5, iv 0, u_] [.int 0, .ref sb]) (fun t k => XS.iloadN X0.here hx rfl (hb hby d13_11) rfl k) ?_
    obtain ⟨cl51, Ar51, qa51, S51, M51, H51, U51⟩ := id F_0
    have hi51 := inb_of S51 (j := (0 : Int32)) ⟨by decide, by decide⟩
    have hat51 := H51.at hi51 (v := (.int c0)) rfl
    refine own_s s₁ (mkF m 13 #[rv sb, iv 0, rv a2, iv 0, iv 5, iv 0, u_] [.int c0]) (fun t k => X0.caload hx (j := (0 : Int32)) (v := (.int c0)) (by rw [e0]; exact Ar51.1) (State.isArrayOf_alike hZ.alike Ar51.2.1) Ar51.2.2 hi51 hat51 (g := (mkF m 12 #[rv sb, iv 0, rv a2, iv 0, iv 5, iv 0, u_] [.int 0, .ref sb])) rfl rfl (hb hby d13_12) t k) ?_
    refine own_s s₁ (mkF m 15 #[rv sb, iv 0, rv a2, iv 0, iv 5, iv 0, iv c0] []) (fun t k => XS.istore X0.here hx rfl (hb hby d13_13) rfl (l' := #[rv sb, iv 0, rv a2, iv 0, iv 5, iv 0, iv c0]) rfl k) ?_
    refine own_s s₁ (mkF m 17 #[rv sb, iv 0, rv a2, iv 0, iv 5, iv 0, iv c0] [.int c0]) (fun t k => XS.iload X0.here hx rfl (hb hby d13_15) rfl k) ?_
    refine own_s s₁ (mkF m 20 #[rv sb, iv 0, rv a2, iv 0, iv 5, iv 0, iv c0] [.int 255, .int c0]) (fun t k => XS.sipush X0.here hx rfl (hb hby d13_17) k) ?_
    refine own_s s₁ (mkF m 26 #[rv sb, iv 0, rv a2, iv 0, iv 5, iv 0, iv c0] []) (fun t k => XS.icmpYes X0.here hx rfl (pc0 := 20) (pc' := 26) rfl (hb hby d13_20) rfl (flt hc0).2.2.2 (by decide) (by decide) k) ?_
    refine own_s s₁ (mkF m 27 #[rv sb, iv 0, rv a2, iv 0, iv 5, iv 0, iv c0] [.ref a2]) (fun t k => XS.aloadN X0.here hx rfl (hb hby d13_26) rfl rfl k) ?_
    refine own_s s₁ (mkF m 28 #[rv sb, iv 0, rv a2, iv 0, iv 5, iv 0, iv c0] [.int 0, .ref a2]) (fun t k => XS.iloadN X0.here hx rfl (hb hby d13_27) rfl k) ?_
    refine own_s s₁ (mkF m 30 #[rv sb, iv 0, rv a2, iv 0, iv 5, iv 0, iv c0] [.int c0, .int 0, .ref a2]) (fun t k => XS.iload X0.here hx rfl (hb hby d13_28) rfl k) ?_
    refine own_s s₁ (mkF m 31 #[rv sb, iv 0, rv a2, iv 0, iv 5, iv 0, iv c0] [.int (c0.toInt8.toInt32), .int 0, .ref a2]) (fun t k => XS.i2b X0.here hx rfl (hb hby d13_30) rfl k) ?_
    obtain ⟨cl52, Ar52, qa52, S52, M52, H52, U52⟩ := id Vp
    obtain ⟨T52, h52, X52, e52, W52, st52⟩ := stB X0 hx hZ e0 Ar52 (j := (0 : Int32)) (inb_of S52 ⟨by decide, by decide⟩) (g := (mkF m 31 #[rv sb, iv 0, rv a2, iv 0, iv 5, iv 0, iv c0] [.int (c0.toInt8.toInt32), .int 0, .ref a2])) rfl rfl (hb hby d13_31)
    have g53 := F_0.other W52 n_sb_a2
    have g54 : Arv Z h52 a2 kb .byte (5 : Int32) [(.int (nar .byte (c0.toInt8.toInt32))), (.int (0 : Int32)), (.int (0 : Int32)), (.int (0 : Int32)), (.int (0 : Int32))] (.int (0 : Int32)) := Arv.set Ar52 qa52 S52 M52 H52 U52 (fits_nar_byte _) W52 0 rfl (Nat.le_of_ble_eq_true rfl)
    have K55 : Keep h0 h52 [a2] := K0.wr W52 (Or.inl (List.mem_of_getElem? (i := 0) rfl))
    have N52 := Fr.snoc X52 N0 o_a2
    have Z52 : n0 ≤ h52.size := (Nat.le_trans Z0 (Nat.le_of_eq W52.size.symm))
    refine own_s T52 (mkF m 32 #[rv sb, iv 0, rv a2, iv 0, iv 5, iv 0, iv c0] []) st52 ?_
    refine own_s T52 (mkF m 35 #[rv sb, iv 1, rv a2, iv 0, iv 5, iv 0, iv c0] []) (fun t k => XS.iinc X52.here hx rfl (hb hby d13_32) rfl (l' := #[rv sb, iv 1, rv a2, iv 0, iv 5, iv 0, iv c0]) rfl k) ?_
    refine own_s T52 (mkF m 38 #[rv sb, iv 1, rv a2, iv 1, iv 5, iv 0, iv c0] []) (fun t k => XS.iinc X52.here hx rfl (hb hby d13_35) rfl (l' := #[rv sb, iv 1, rv a2, iv 1, iv 5, iv 0, iv c0]) rfl k) ?_
    refine own_s T52 (mkF m 41 #[rv sb, iv 1, rv a2, iv 1, iv 5, iv 1, iv c0] []) (fun t k => XS.iinc X52.here hx rfl (hb hby d13_38) rfl (l' := #[rv sb, iv 1, rv a2, iv 1, iv 5, iv 1, iv c0]) rfl k) ?_
    refine own_s T52 (mkF m 3 #[rv sb, iv 1, rv a2, iv 1, iv 5, iv 1, iv c0] []) (fun t k => XS.goto X52.here hx rfl (pc0 := 41) (pc' := 3) rfl (hb hby d13_41) (by decide) (by decide) k) ?_
    refine own_s T52 (mkF m 5 #[rv sb, iv 1, rv a2, iv 1, iv 5, iv 1, iv c0] [.int 1]) (fun t k => XS.iload X52.here hx rfl (hb hby d13_3) rfl k) ?_
    refine own_s T52 (mkF m 7 #[rv sb, iv 1, rv a2, iv 1, iv 5, iv 1, iv c0] [.int 5, .int 1]) (fun t k => XS.iload X52.here hx rfl (hb hby d13_5) rfl k) ?_
    refine own_s T52 (mkF m 10 #[rv sb, iv 1, rv a2, iv 1, iv 5, iv 1, iv c0] []) (fun t k => XS.icmpNo X52.here hx rfl (hb hby d13_7) rfl (tlt (by decide : ((1 : Int32) < (5 : Int32)))).2.1 k) ?_
    refine own_s T52 (mkF m 11 #[rv sb, iv 1, rv a2, iv 1, iv 5, iv 1, iv c0] [.ref sb]) (fun t k => XS.aloadN X52.here hx rfl (hb hby d13_10) rfl rfl k) ?_
    refine own_s T52 (mkF m 12 #[rv sb, iv 1, rv a2, iv 1, iv 5, iv 1, iv c0] [.int 1, .ref sb]) (fun t k => XS.iloadN X52.here hx rfl (hb hby d13_11) rfl k) ?_
    obtain ⟨cl56, Ar56, qa56, S56, M56, H56, U56⟩ := id g53
    have hi56 := inb_of S56 (j := (1 : Int32)) ⟨by decide, by decide⟩
    have hat56 := H56.at hi56 (v := (.int c1)) rfl
    refine own_s T52 (mkF m 13 #[rv sb, iv 1, rv a2, iv 1, iv 5, iv 1, iv c0] [.int c1]) (fun t k => X52.caload hx (j := (1 : Int32)) (v := (.int c1)) (by rw [e52]; exact Ar56.1) (State.isArrayOf_alike hZ.alike Ar56.2.1) Ar56.2.2 hi56 hat56 (g := (mkF m 12 #[rv sb, iv 1, rv a2, iv 1, iv 5, iv 1, iv c0] [.int 1, .ref sb])) rfl rfl (hb hby d13_12) t k) ?_
    refine own_s T52 (mkF m 15 #[rv sb, iv 1, rv a2, iv 1, iv 5, iv 1, iv c1] []) (fun t k => XS.istore X52.here hx rfl (hb hby d13_13) rfl (l' := #[rv sb, iv 1, rv a2, iv 1, iv 5, iv 1, iv c1]) rfl k) ?_
    refine own_s T52 (mkF m 17 #[rv sb, iv 1, rv a2, iv 1, iv 5, iv 1, iv c1] [.int c1]) (fun t k => XS.iload X52.here hx rfl (hb hby d13_15) rfl k) ?_
    refine own_s T52 (mkF m 20 #[rv sb, iv 1, rv a2, iv 1, iv 5, iv 1, iv c1] [.int 255, .int c1]) (fun t k => XS.sipush X52.here hx rfl (hb hby d13_17) k) ?_
    refine own_s T52 (mkF m 26 #[rv sb, iv 1, rv a2, iv 1, iv 5, iv 1, iv c1] []) (fun t k => XS.icmpYes X52.here hx rfl (pc0 := 20) (pc' := 26) rfl (hb hby d13_20) rfl (flt hc1).2.2.2 (by decide) (by decide) k) ?_
    refine own_s T52 (mkF m 27 #[rv sb, iv 1, rv a2, iv 1, iv 5, iv 1, iv c1] [.ref a2]) (fun t k => XS.aloadN X52.here hx rfl (hb hby d13_26) rfl rfl k) ?_
    refine own_s T52 (mkF m 28 #[rv sb, iv 1, rv a2, iv 1, iv 5, iv 1, iv c1] [.int 1, .ref a2]) (fun t k => XS.iloadN X52.here hx rfl (hb hby d13_27) rfl k) ?_
    refine own_s T52 (mkF m 30 #[rv sb, iv 1, rv a2, iv 1, iv 5, iv 1, iv c1] [.int c1, .int 1, .ref a2]) (fun t k => XS.iload X52.here hx rfl (hb hby d13_28) rfl k) ?_
    refine own_s T52 (mkF m 31 #[rv sb, iv 1, rv a2, iv 1, iv 5, iv 1, iv c1] [.int (c1.toInt8.toInt32), .int 1, .ref a2]) (fun t k => XS.i2b X52.here hx rfl (hb hby d13_30) rfl k) ?_
    obtain ⟨cl57, Ar57, qa57, S57, M57, H57, U57⟩ := id g54
    obtain ⟨T57, h57, X57, e57, W57, st57⟩ := stB X52 hx hZ e52 Ar57 (j := (1 : Int32)) (inb_of S57 ⟨by decide, by decide⟩) (g := (mkF m 31 #[rv sb, iv 1, rv a2, iv 1, iv 5, iv 1, iv c1] [.int (c1.toInt8.toInt32), .int 1, .ref a2])) rfl rfl (hb hby d13_31)
    have g58 := g53.other W57 n_sb_a2
    have g59 : Arv Z h57 a2 kb .byte (5 : Int32) [(.int (nar .byte (c0.toInt8.toInt32))), (.int (nar .byte (c1.toInt8.toInt32))), (.int (0 : Int32)), (.int (0 : Int32)), (.int (0 : Int32))] (.int (0 : Int32)) := Arv.set Ar57 qa57 S57 M57 H57 U57 (fits_nar_byte _) W57 1 rfl (Nat.le_of_ble_eq_true rfl)
    have K60 : Keep h0 h57 [a2] := K55.wr W57 (Or.inl (List.mem_of_getElem? (i := 0) rfl))
    have N57 := Fr.snoc X57 N52 o_a2
    have Z57 : n0 ≤ h57.size := (Nat.le_trans Z52 (Nat.le_of_eq W57.size.symm))
    refine own_s T57 (mkF m 32 #[rv sb, iv 1, rv a2, iv 1, iv 5, iv 1, iv c1] []) st57 ?_
    refine own_s T57 (mkF m 35 #[rv sb, iv 2, rv a2, iv 1, iv 5, iv 1, iv c1] []) (fun t k => XS.iinc X57.here hx rfl (hb hby d13_32) rfl (l' := #[rv sb, iv 2, rv a2, iv 1, iv 5, iv 1, iv c1]) rfl k) ?_
    refine own_s T57 (mkF m 38 #[rv sb, iv 2, rv a2, iv 2, iv 5, iv 1, iv c1] []) (fun t k => XS.iinc X57.here hx rfl (hb hby d13_35) rfl (l' := #[rv sb, iv 2, rv a2, iv 2, iv 5, iv 1, iv c1]) rfl k) ?_
    refine own_s T57 (mkF m 41 #[rv sb, iv 2, rv a2, iv 2, iv 5, iv 2, iv c1] []) (fun t k => XS.iinc X57.here hx rfl (hb hby d13_38) rfl (l' := #[rv sb, iv 2, rv a2, iv 2, iv 5, iv 2, iv c1]) rfl k) ?_
    refine own_s T57 (mkF m 3 #[rv sb, iv 2, rv a2, iv 2, iv 5, iv 2, iv c1] []) (fun t k => XS.goto X57.here hx rfl (pc0 := 41) (pc' := 3) rfl (hb hby d13_41) (by decide) (by decide) k) ?_
    refine own_s T57 (mkF m 5 #[rv sb, iv 2, rv a2, iv 2, iv 5, iv 2, iv c1] [.int 2]) (fun t k => XS.iload X57.here hx rfl (hb hby d13_3) rfl k) ?_
    refine own_s T57 (mkF m 7 #[rv sb, iv 2, rv a2, iv 2, iv 5, iv 2, iv c1] [.int 5, .int 2]) (fun t k => XS.iload X57.here hx rfl (hb hby d13_5) rfl k) ?_
    refine own_s T57 (mkF m 10 #[rv sb, iv 2, rv a2, iv 2, iv 5, iv 2, iv c1] []) (fun t k => XS.icmpNo X57.here hx rfl (hb hby d13_7) rfl (tlt (by decide : ((2 : Int32) < (5 : Int32)))).2.1 k) ?_
    refine own_s T57 (mkF m 11 #[rv sb, iv 2, rv a2, iv 2, iv 5, iv 2, iv c1] [.ref sb]) (fun t k => XS.aloadN X57.here hx rfl (hb hby d13_10) rfl rfl k) ?_
    refine own_s T57 (mkF m 12 #[rv sb, iv 2, rv a2, iv 2, iv 5, iv 2, iv c1] [.int 2, .ref sb]) (fun t k => XS.iloadN X57.here hx rfl (hb hby d13_11) rfl k) ?_
    obtain ⟨cl61, Ar61, qa61, S61, M61, H61, U61⟩ := id g58
    have hi61 := inb_of S61 (j := (2 : Int32)) ⟨by decide, by decide⟩
    have hat61 := H61.at hi61 (v := (.int c2)) rfl
    refine own_s T57 (mkF m 13 #[rv sb, iv 2, rv a2, iv 2, iv 5, iv 2, iv c1] [.int c2]) (fun t k => X57.caload hx (j := (2 : Int32)) (v := (.int c2)) (by rw [e57]; exact Ar61.1) (State.isArrayOf_alike hZ.alike Ar61.2.1) Ar61.2.2 hi61 hat61 (g := (mkF m 12 #[rv sb, iv 2, rv a2, iv 2, iv 5, iv 2, iv c1] [.int 2, .ref sb])) rfl rfl (hb hby d13_12) t k) ?_
    refine own_s T57 (mkF m 15 #[rv sb, iv 2, rv a2, iv 2, iv 5, iv 2, iv c2] []) (fun t k => XS.istore X57.here hx rfl (hb hby d13_13) rfl (l' := #[rv sb, iv 2, rv a2, iv 2, iv 5, iv 2, iv c2]) rfl k) ?_
    refine own_s T57 (mkF m 17 #[rv sb, iv 2, rv a2, iv 2, iv 5, iv 2, iv c2] [.int c2]) (fun t k => XS.iload X57.here hx rfl (hb hby d13_15) rfl k) ?_
    refine own_s T57 (mkF m 20 #[rv sb, iv 2, rv a2, iv 2, iv 5, iv 2, iv c2] [.int 255, .int c2]) (fun t k => XS.sipush X57.here hx rfl (hb hby d13_17) k) ?_
    refine own_s T57 (mkF m 26 #[rv sb, iv 2, rv a2, iv 2, iv 5, iv 2, iv c2] []) (fun t k => XS.icmpYes X57.here hx rfl (pc0 := 20) (pc' := 26) rfl (hb hby d13_20) rfl (flt hc2).2.2.2 (by decide) (by decide) k) ?_
    refine own_s T57 (mkF m 27 #[rv sb, iv 2, rv a2, iv 2, iv 5, iv 2, iv c2] [.ref a2]) (fun t k => XS.aloadN X57.here hx rfl (hb hby d13_26) rfl rfl k) ?_
    refine own_s T57 (mkF m 28 #[rv sb, iv 2, rv a2, iv 2, iv 5, iv 2, iv c2] [.int 2, .ref a2]) (fun t k => XS.iloadN X57.here hx rfl (hb hby d13_27) rfl k) ?_
    refine own_s T57 (mkF m 30 #[rv sb, iv 2, rv a2, iv 2, iv 5, iv 2, iv c2] [.int c2, .int 2, .ref a2]) (fun t k => XS.iload X57.here hx rfl (hb hby d13_28) rfl k) ?_
    refine own_s T57 (mkF m 31 #[rv sb, iv 2, rv a2, iv 2, iv 5, iv 2, iv c2] [.int (c2.toInt8.toInt32), .int 2, .ref a2]) (fun t k => XS.i2b X57.here hx rfl (hb hby d13_30) rfl k) ?_
    obtain ⟨cl62, Ar62, qa62, S62, M62, H62, U62⟩ := id g59
    obtain ⟨T62, h62, X62, e62, W62, st62⟩ := stB X57 hx hZ e57 Ar62 (j := (2 : Int32)) (inb_of S62 ⟨by decide, by decide⟩) (g := (mkF m 31 #[rv sb, iv 2, rv a2, iv 2, iv 5, iv 2, iv c2] [.int (c2.toInt8.toInt32), .int 2, .ref a2])) rfl rfl (hb hby d13_31)
    have g63 := g58.other W62 n_sb_a2
    have g64 : Arv Z h62 a2 kb .byte (5 : Int32) [(.int (nar .byte (c0.toInt8.toInt32))), (.int (nar .byte (c1.toInt8.toInt32))), (.int (nar .byte (c2.toInt8.toInt32))), (.int (0 : Int32)), (.int (0 : Int32))] (.int (0 : Int32)) := Arv.set Ar62 qa62 S62 M62 H62 U62 (fits_nar_byte _) W62 2 rfl (Nat.le_of_ble_eq_true rfl)
    have K65 : Keep h0 h62 [a2] := K60.wr W62 (Or.inl (List.mem_of_getElem? (i := 0) rfl))
    have N62 := Fr.snoc X62 N57 o_a2
    have Z62 : n0 ≤ h62.size := (Nat.le_trans Z57 (Nat.le_of_eq W62.size.symm))
    refine own_s T62 (mkF m 32 #[rv sb, iv 2, rv a2, iv 2, iv 5, iv 2, iv c2] []) st62 ?_
    refine own_s T62 (mkF m 35 #[rv sb, iv 3, rv a2, iv 2, iv 5, iv 2, iv c2] []) (fun t k => XS.iinc X62.here hx rfl (hb hby d13_32) rfl (l' := #[rv sb, iv 3, rv a2, iv 2, iv 5, iv 2, iv c2]) rfl k) ?_
    refine own_s T62 (mkF m 38 #[rv sb, iv 3, rv a2, iv 3, iv 5, iv 2, iv c2] []) (fun t k => XS.iinc X62.here hx rfl (hb hby d13_35) rfl (l' := #[rv sb, iv 3, rv a2, iv 3, iv 5, iv 2, iv c2]) rfl k) ?_
    refine own_s T62 (mkF m 41 #[rv sb, iv 3, rv a2, iv 3, iv 5, iv 3, iv c2] []) (fun t k => XS.iinc X62.here hx rfl (hb hby d13_38) rfl (l' := #[rv sb, iv 3, rv a2, iv 3, iv 5, iv 3, iv c2]) rfl k) ?_
    refine own_s T62 (mkF m 3 #[rv sb, iv 3, rv a2, iv 3, iv 5, iv 3, iv c2] []) (fun t k => XS.goto X62.here hx rfl (pc0 := 41) (pc' := 3) rfl (hb hby d13_41) (by decide) (by decide) k) ?_
    refine own_s T62 (mkF m 5 #[rv sb, iv 3, rv a2, iv 3, iv 5, iv 3, iv c2] [.int 3]) (fun t k => XS.iload X62.here hx rfl (hb hby d13_3) rfl k) ?_
    refine own_s T62 (mkF m 7 #[rv sb, iv 3, rv a2, iv 3, iv 5, iv 3, iv c2] [.int 5, .int 3]) (fun t k => XS.iload X62.here hx rfl (hb hby d13_5) rfl k) ?_
    refine own_s T62 (mkF m 10 #[rv sb, iv 3, rv a2, iv 3, iv 5, iv 3, iv c2] []) (fun t k => XS.icmpNo X62.here hx rfl (hb hby d13_7) rfl (tlt (by decide : ((3 : Int32) < (5 : Int32)))).2.1 k) ?_
    refine own_s T62 (mkF m 11 #[rv sb, iv 3, rv a2, iv 3, iv 5, iv 3, iv c2] [.ref sb]) (fun t k => XS.aloadN X62.here hx rfl (hb hby d13_10) rfl rfl k) ?_
    refine own_s T62 (mkF m 12 #[rv sb, iv 3, rv a2, iv 3, iv 5, iv 3, iv c2] [.int 3, .ref sb]) (fun t k => XS.iloadN X62.here hx rfl (hb hby d13_11) rfl k) ?_
    obtain ⟨cl66, Ar66, qa66, S66, M66, H66, U66⟩ := id g63
    have hi66 := inb_of S66 (j := (3 : Int32)) ⟨by decide, by decide⟩
    have hat66 := H66.at hi66 (v := (.int c3)) rfl
    refine own_s T62 (mkF m 13 #[rv sb, iv 3, rv a2, iv 3, iv 5, iv 3, iv c2] [.int c3]) (fun t k => X62.caload hx (j := (3 : Int32)) (v := (.int c3)) (by rw [e62]; exact Ar66.1) (State.isArrayOf_alike hZ.alike Ar66.2.1) Ar66.2.2 hi66 hat66 (g := (mkF m 12 #[rv sb, iv 3, rv a2, iv 3, iv 5, iv 3, iv c2] [.int 3, .ref sb])) rfl rfl (hb hby d13_12) t k) ?_
    refine own_s T62 (mkF m 15 #[rv sb, iv 3, rv a2, iv 3, iv 5, iv 3, iv c3] []) (fun t k => XS.istore X62.here hx rfl (hb hby d13_13) rfl (l' := #[rv sb, iv 3, rv a2, iv 3, iv 5, iv 3, iv c3]) rfl k) ?_
    refine own_s T62 (mkF m 17 #[rv sb, iv 3, rv a2, iv 3, iv 5, iv 3, iv c3] [.int c3]) (fun t k => XS.iload X62.here hx rfl (hb hby d13_15) rfl k) ?_
    refine own_s T62 (mkF m 20 #[rv sb, iv 3, rv a2, iv 3, iv 5, iv 3, iv c3] [.int 255, .int c3]) (fun t k => XS.sipush X62.here hx rfl (hb hby d13_17) k) ?_
    refine own_s T62 (mkF m 26 #[rv sb, iv 3, rv a2, iv 3, iv 5, iv 3, iv c3] []) (fun t k => XS.icmpYes X62.here hx rfl (pc0 := 20) (pc' := 26) rfl (hb hby d13_20) rfl (flt hc3).2.2.2 (by decide) (by decide) k) ?_
    refine own_s T62 (mkF m 27 #[rv sb, iv 3, rv a2, iv 3, iv 5, iv 3, iv c3] [.ref a2]) (fun t k => XS.aloadN X62.here hx rfl (hb hby d13_26) rfl rfl k) ?_
    refine own_s T62 (mkF m 28 #[rv sb, iv 3, rv a2, iv 3, iv 5, iv 3, iv c3] [.int 3, .ref a2]) (fun t k => XS.iloadN X62.here hx rfl (hb hby d13_27) rfl k) ?_
    refine own_s T62 (mkF m 30 #[rv sb, iv 3, rv a2, iv 3, iv 5, iv 3, iv c3] [.int c3, .int 3, .ref a2]) (fun t k => XS.iload X62.here hx rfl (hb hby d13_28) rfl k) ?_
    refine own_s T62 (mkF m 31 #[rv sb, iv 3, rv a2, iv 3, iv 5, iv 3, iv c3] [.int (c3.toInt8.toInt32), .int 3, .ref a2]) (fun t k => XS.i2b X62.here hx rfl (hb hby d13_30) rfl k) ?_
    obtain ⟨cl67, Ar67, qa67, S67, M67, H67, U67⟩ := id g64
    obtain ⟨T67, h67, X67, e67, W67, st67⟩ := stB X62 hx hZ e62 Ar67 (j := (3 : Int32)) (inb_of S67 ⟨by decide, by decide⟩) (g := (mkF m 31 #[rv sb, iv 3, rv a2, iv 3, iv 5, iv 3, iv c3] [.int (c3.toInt8.toInt32), .int 3, .ref a2])) rfl rfl (hb hby d13_31)
    have g68 := g63.other W67 n_sb_a2
    have g69 : Arv Z h67 a2 kb .byte (5 : Int32) [(.int (nar .byte (c0.toInt8.toInt32))), (.int (nar .byte (c1.toInt8.toInt32))), (.int (nar .byte (c2.toInt8.toInt32))), (.int (nar .byte (c3.toInt8.toInt32))), (.int (0 : Int32))] (.int (0 : Int32)) := Arv.set Ar67 qa67 S67 M67 H67 U67 (fits_nar_byte _) W67 3 rfl (Nat.le_of_ble_eq_true rfl)
    have K70 : Keep h0 h67 [a2] := K65.wr W67 (Or.inl (List.mem_of_getElem? (i := 0) rfl))
    have N67 := Fr.snoc X67 N62 o_a2
    have Z67 : n0 ≤ h67.size := (Nat.le_trans Z62 (Nat.le_of_eq W67.size.symm))
    refine own_s T67 (mkF m 32 #[rv sb, iv 3, rv a2, iv 3, iv 5, iv 3, iv c3] []) st67 ?_
    refine own_s T67 (mkF m 35 #[rv sb, iv 4, rv a2, iv 3, iv 5, iv 3, iv c3] []) (fun t k => XS.iinc X67.here hx rfl (hb hby d13_32) rfl (l' := #[rv sb, iv 4, rv a2, iv 3, iv 5, iv 3, iv c3]) rfl k) ?_
    refine own_s T67 (mkF m 38 #[rv sb, iv 4, rv a2, iv 4, iv 5, iv 3, iv c3] []) (fun t k => XS.iinc X67.here hx rfl (hb hby d13_35) rfl (l' := #[rv sb, iv 4, rv a2, iv 4, iv 5, iv 3, iv c3]) rfl k) ?_
    refine own_s T67 (mkF m 41 #[rv sb, iv 4, rv a2, iv 4, iv 5, iv 4, iv c3] []) (fun t k => XS.iinc X67.here hx rfl (hb hby d13_38) rfl (l' := #[rv sb, iv 4, rv a2, iv 4, iv 5, iv 4, iv c3]) rfl k) ?_
    refine own_s T67 (mkF m 3 #[rv sb, iv 4, rv a2, iv 4, iv 5, iv 4, iv c3] []) (fun t k => XS.goto X67.here hx rfl (pc0 := 41) (pc' := 3) rfl (hb hby d13_41) (by decide) (by decide) k) ?_
    refine own_s T67 (mkF m 5 #[rv sb, iv 4, rv a2, iv 4, iv 5, iv 4, iv c3] [.int 4]) (fun t k => XS.iload X67.here hx rfl (hb hby d13_3) rfl k) ?_
    refine own_s T67 (mkF m 7 #[rv sb, iv 4, rv a2, iv 4, iv 5, iv 4, iv c3] [.int 5, .int 4]) (fun t k => XS.iload X67.here hx rfl (hb hby d13_5) rfl k) ?_
    refine own_s T67 (mkF m 10 #[rv sb, iv 4, rv a2, iv 4, iv 5, iv 4, iv c3] []) (fun t k => XS.icmpNo X67.here hx rfl (hb hby d13_7) rfl (tlt (by decide : ((4 : Int32) < (5 : Int32)))).2.1 k) ?_
    refine own_s T67 (mkF m 11 #[rv sb, iv 4, rv a2, iv 4, iv 5, iv 4, iv c3] [.ref sb]) (fun t k => XS.aloadN X67.here hx rfl (hb hby d13_10) rfl rfl k) ?_
    refine own_s T67 (mkF m 12 #[rv sb, iv 4, rv a2, iv 4, iv 5, iv 4, iv c3] [.int 4, .ref sb]) (fun t k => XS.iloadN X67.here hx rfl (hb hby d13_11) rfl k) ?_
    obtain ⟨cl71, Ar71, qa71, S71, M71, H71, U71⟩ := id g68
    have hi71 := inb_of S71 (j := (4 : Int32)) ⟨by decide, by decide⟩
    have hat71 := H71.at hi71 (v := (.int c4)) rfl
    refine own_s T67 (mkF m 13 #[rv sb, iv 4, rv a2, iv 4, iv 5, iv 4, iv c3] [.int c4]) (fun t k => X67.caload hx (j := (4 : Int32)) (v := (.int c4)) (by rw [e67]; exact Ar71.1) (State.isArrayOf_alike hZ.alike Ar71.2.1) Ar71.2.2 hi71 hat71 (g := (mkF m 12 #[rv sb, iv 4, rv a2, iv 4, iv 5, iv 4, iv c3] [.int 4, .ref sb])) rfl rfl (hb hby d13_12) t k) ?_
    refine own_s T67 (mkF m 15 #[rv sb, iv 4, rv a2, iv 4, iv 5, iv 4, iv c4] []) (fun t k => XS.istore X67.here hx rfl (hb hby d13_13) rfl (l' := #[rv sb, iv 4, rv a2, iv 4, iv 5, iv 4, iv c4]) rfl k) ?_
    refine own_s T67 (mkF m 17 #[rv sb, iv 4, rv a2, iv 4, iv 5, iv 4, iv c4] [.int c4]) (fun t k => XS.iload X67.here hx rfl (hb hby d13_15) rfl k) ?_
    refine own_s T67 (mkF m 20 #[rv sb, iv 4, rv a2, iv 4, iv 5, iv 4, iv c4] [.int 255, .int c4]) (fun t k => XS.sipush X67.here hx rfl (hb hby d13_17) k) ?_
    refine own_s T67 (mkF m 26 #[rv sb, iv 4, rv a2, iv 4, iv 5, iv 4, iv c4] []) (fun t k => XS.icmpYes X67.here hx rfl (pc0 := 20) (pc' := 26) rfl (hb hby d13_20) rfl (flt hc4).2.2.2 (by decide) (by decide) k) ?_
    refine own_s T67 (mkF m 27 #[rv sb, iv 4, rv a2, iv 4, iv 5, iv 4, iv c4] [.ref a2]) (fun t k => XS.aloadN X67.here hx rfl (hb hby d13_26) rfl rfl k) ?_
    refine own_s T67 (mkF m 28 #[rv sb, iv 4, rv a2, iv 4, iv 5, iv 4, iv c4] [.int 4, .ref a2]) (fun t k => XS.iloadN X67.here hx rfl (hb hby d13_27) rfl k) ?_
    refine own_s T67 (mkF m 30 #[rv sb, iv 4, rv a2, iv 4, iv 5, iv 4, iv c4] [.int c4, .int 4, .ref a2]) (fun t k => XS.iload X67.here hx rfl (hb hby d13_28) rfl k) ?_
    refine own_s T67 (mkF m 31 #[rv sb, iv 4, rv a2, iv 4, iv 5, iv 4, iv c4] [.int (c4.toInt8.toInt32), .int 4, .ref a2]) (fun t k => XS.i2b X67.here hx rfl (hb hby d13_30) rfl k) ?_
    obtain ⟨cl72, Ar72, qa72, S72, M72, H72, U72⟩ := id g69
    obtain ⟨T72, h72, X72, e72, W72, st72⟩ := stB X67 hx hZ e67 Ar72 (j := (4 : Int32)) (inb_of S72 ⟨by decide, by decide⟩) (g := (mkF m 31 #[rv sb, iv 4, rv a2, iv 4, iv 5, iv 4, iv c4] [.int (c4.toInt8.toInt32), .int 4, .ref a2])) rfl rfl (hb hby d13_31)
    have g73 := g68.other W72 n_sb_a2
    have g74 : Arv Z h72 a2 kb .byte (5 : Int32) [(.int (nar .byte (c0.toInt8.toInt32))), (.int (nar .byte (c1.toInt8.toInt32))), (.int (nar .byte (c2.toInt8.toInt32))), (.int (nar .byte (c3.toInt8.toInt32))), (.int (nar .byte (c4.toInt8.toInt32)))] (.int (0 : Int32)) := Arv.set Ar72 qa72 S72 M72 H72 U72 (fits_nar_byte _) W72 4 rfl (Nat.le_of_ble_eq_true rfl)
    have K75 : Keep h0 h72 [a2] := K70.wr W72 (Or.inl (List.mem_of_getElem? (i := 0) rfl))
    have N72 := Fr.snoc X72 N67 o_a2
    have Z72 : n0 ≤ h72.size := (Nat.le_trans Z67 (Nat.le_of_eq W72.size.symm))
    refine own_s T72 (mkF m 32 #[rv sb, iv 4, rv a2, iv 4, iv 5, iv 4, iv c4] []) st72 ?_
    refine own_s T72 (mkF m 35 #[rv sb, iv 5, rv a2, iv 4, iv 5, iv 4, iv c4] []) (fun t k => XS.iinc X72.here hx rfl (hb hby d13_32) rfl (l' := #[rv sb, iv 5, rv a2, iv 4, iv 5, iv 4, iv c4]) rfl k) ?_
    refine own_s T72 (mkF m 38 #[rv sb, iv 5, rv a2, iv 5, iv 5, iv 4, iv c4] []) (fun t k => XS.iinc X72.here hx rfl (hb hby d13_35) rfl (l' := #[rv sb, iv 5, rv a2, iv 5, iv 5, iv 4, iv c4]) rfl k) ?_
    refine own_s T72 (mkF m 41 #[rv sb, iv 5, rv a2, iv 5, iv 5, iv 5, iv c4] []) (fun t k => XS.iinc X72.here hx rfl (hb hby d13_38) rfl (l' := #[rv sb, iv 5, rv a2, iv 5, iv 5, iv 5, iv c4]) rfl k) ?_
    refine own_s T72 (mkF m 3 #[rv sb, iv 5, rv a2, iv 5, iv 5, iv 5, iv c4] []) (fun t k => XS.goto X72.here hx rfl (pc0 := 41) (pc' := 3) rfl (hb hby d13_41) (by decide) (by decide) k) ?_
    refine own_s T72 (mkF m 5 #[rv sb, iv 5, rv a2, iv 5, iv 5, iv 5, iv c4] [.int 5]) (fun t k => XS.iload X72.here hx rfl (hb hby d13_3) rfl k) ?_
    refine own_s T72 (mkF m 7 #[rv sb, iv 5, rv a2, iv 5, iv 5, iv 5, iv c4] [.int 5, .int 5]) (fun t k => XS.iload X72.here hx rfl (hb hby d13_5) rfl k) ?_
    refine own_s T72 (mkF m 44 #[rv sb, iv 5, rv a2, iv 5, iv 5, iv 5, iv c4] []) (fun t k => XS.icmpYes X72.here hx rfl (pc0 := 7) (pc' := 44) rfl (hb hby d13_7) rfl (flt (by decide : ¬ ((5 : Int32) < (5 : Int32)))).2.1 (by decide) (by decide) k) ?_
    refine own_s T72 (mkF m 46 #[rv sb, iv 5, rv a2, iv 5, iv 5, iv 5, iv c4] [.int 5]) (fun t k => XS.iload X72.here hx rfl (hb hby d13_44) rfl k) ?_
    refine own_rI X72 hx hlk Bd.returns (hb hby d13_46) ?_ (by decide) (by decide)
    rw [e72]
    exact ⟨[(.int (nar .byte (c0.toInt8.toInt32))), (.int (nar .byte (c1.toInt8.toInt32))), (.int (nar .byte (c2.toInt8.toInt32))), (.int (nar .byte (c3.toInt8.toInt32))), (.int (nar .byte (c4.toInt8.toInt32)))], rfl, N72, K75, g74, (Or.inr (Or.inr (Or.inr (Or.inr (Or.inr (Or.inl ⟨_, _, _, _, _, rfl, rfl⟩))))))⟩
  · have Vp : Arv Z h0 a2 kb .byte (6 : Int32) [(.int (0 : Int32)), (.int (0 : Int32)), (.int (0 : Int32)), (.int (0 : Int32)), (.int (0 : Int32)), (.int (0 : Int32))] (.int (0 : Int32)) := F_1.pad (pad_rep [] (.int (0 : Int32)) 6)
    refine own_s s₁ (mkF m 1 #[rv sb, iv 0, rv a2, iv 0, iv 6, u_, u_] [.int 0]) (fun t k => XS.iconst X0.here hx rfl (hb hby d13_0) k) ?_
    refine own_s s₁ (mkF m 3 #[rv sb, iv 0, rv a2, iv 0, iv 6, iv 0, u_] []) (fun t k => XS.istore X0.here hx rfl (hb hby d13_1) rfl (l' := #[rv sb, iv 0, rv a2, iv 0, iv 6, iv 0, u_]) rfl k) ?_
    refine own_s s₁ (mkF m 5 #[rv sb, iv 0, rv a2, iv 0, iv 6, iv 0, u_] [.int 0]) (fun t k => XS.iload X0.here hx rfl (hb hby d13_3) rfl k) ?_
    refine own_s s₁ (mkF m 7 #[rv sb, iv 0, rv a2, iv 0, iv 6, iv 0, u_] [.int 6, .int 0]) (fun t k => XS.iload X0.here hx rfl (hb hby d13_5) rfl k) ?_
    refine own_s s₁ (mkF m 10 #[rv sb, iv 0, rv a2, iv 0, iv 6, iv 0, u_] []) (fun t k => XS.icmpNo X0.here hx rfl (hb hby d13_7) rfl (tlt (by decide : ((0 : Int32) < (6 : Int32)))).2.1 k) ?_
    refine own_s s₁ (mkF m 11 #[rv sb, iv 0, rv a2, iv 0, iv 6, iv 0, u_] [.ref sb]) (fun t k => XS.aloadN X0.here hx rfl (hb hby d13_10) rfl rfl k) ?_
    refine own_s s₁ (mkF m 12 #[rv sb, iv 0, rv a2, iv 0, iv 6, iv 0, u_] [.int 0, .ref sb]) (fun t k => XS.iloadN X0.here hx rfl (hb hby d13_11) rfl k) ?_
    obtain ⟨cl76, Ar76, qa76, S76, M76, H76, U76⟩ := id F_0
    have hi76 := inb_of S76 (j := (0 : Int32)) ⟨by decide, by decide⟩
    have hat76 := H76.at hi76 (v := (.int c0)) rfl
    refine own_s s₁ (mkF m 13 #[rv sb, iv 0, rv a2, iv 0, iv 6, iv 0, u_] [.int c0]) (fun t k => X0.caload hx (j := (0 : Int32)) (v := (.int c0)) (by rw [e0]; exact Ar76.1) (State.isArrayOf_alike hZ.alike Ar76.2.1) Ar76.2.2 hi76 hat76 (g := (mkF m 12 #[rv sb, iv 0, rv a2, iv 0, iv 6, iv 0, u_] [.int 0, .ref sb])) rfl rfl (hb hby d13_12) t k) ?_
    refine own_s s₁ (mkF m 15 #[rv sb, iv 0, rv a2, iv 0, iv 6, iv 0, iv c0] []) (fun t k => XS.istore X0.here hx rfl (hb hby d13_13) rfl (l' := #[rv sb, iv 0, rv a2, iv 0, iv 6, iv 0, iv c0]) rfl k) ?_
    refine own_s s₁ (mkF m 17 #[rv sb, iv 0, rv a2, iv 0, iv 6, iv 0, iv c0] [.int c0]) (fun t k => XS.iload X0.here hx rfl (hb hby d13_15) rfl k) ?_
    refine own_s s₁ (mkF m 20 #[rv sb, iv 0, rv a2, iv 0, iv 6, iv 0, iv c0] [.int 255, .int c0]) (fun t k => XS.sipush X0.here hx rfl (hb hby d13_17) k) ?_
    refine own_s s₁ (mkF m 26 #[rv sb, iv 0, rv a2, iv 0, iv 6, iv 0, iv c0] []) (fun t k => XS.icmpYes X0.here hx rfl (pc0 := 20) (pc' := 26) rfl (hb hby d13_20) rfl (flt hc0).2.2.2 (by decide) (by decide) k) ?_
    refine own_s s₁ (mkF m 27 #[rv sb, iv 0, rv a2, iv 0, iv 6, iv 0, iv c0] [.ref a2]) (fun t k => XS.aloadN X0.here hx rfl (hb hby d13_26) rfl rfl k) ?_
    refine own_s s₁ (mkF m 28 #[rv sb, iv 0, rv a2, iv 0, iv 6, iv 0, iv c0] [.int 0, .ref a2]) (fun t k => XS.iloadN X0.here hx rfl (hb hby d13_27) rfl k) ?_
    refine own_s s₁ (mkF m 30 #[rv sb, iv 0, rv a2, iv 0, iv 6, iv 0, iv c0] [.int c0, .int 0, .ref a2]) (fun t k => XS.iload X0.here hx rfl (hb hby d13_28) rfl k) ?_
    refine own_s s₁ (mkF m 31 #[rv sb, iv 0, rv a2, iv 0, iv 6, iv 0, iv c0] [.int (c0.toInt8.toInt32), .int 0, .ref a2]) (fun t k => XS.i2b X0.here hx rfl (hb hby d13_30) rfl k) ?_
    obtain ⟨cl77, Ar77, qa77, S77, M77, H77, U77⟩ := id Vp
    obtain ⟨T77, h77, X77, e77, W77, st77⟩ := stB X0 hx hZ e0 Ar77 (j := (0 : Int32)) (inb_of S77 ⟨by decide, by decide⟩) (g := (mkF m 31 #[rv sb, iv 0, rv a2, iv 0, iv 6, iv 0, iv c0] [.int (c0.toInt8.toInt32), .int 0, .ref a2])) rfl rfl (hb hby d13_31)
    have g78 := F_0.other W77 n_sb_a2
    have g79 : Arv Z h77 a2 kb .byte (6 : Int32) [(.int (nar .byte (c0.toInt8.toInt32))), (.int (0 : Int32)), (.int (0 : Int32)), (.int (0 : Int32)), (.int (0 : Int32)), (.int (0 : Int32))] (.int (0 : Int32)) := Arv.set Ar77 qa77 S77 M77 H77 U77 (fits_nar_byte _) W77 0 rfl (Nat.le_of_ble_eq_true rfl)
    have K80 : Keep h0 h77 [a2] := K0.wr W77 (Or.inl (List.mem_of_getElem? (i := 0) rfl))
    have N77 := Fr.snoc X77 N0 o_a2
    have Z77 : n0 ≤ h77.size := (Nat.le_trans Z0 (Nat.le_of_eq W77.size.symm))
    refine own_s T77 (mkF m 32 #[rv sb, iv 0, rv a2, iv 0, iv 6, iv 0, iv c0] []) st77 ?_
    refine own_s T77 (mkF m 35 #[rv sb, iv 1, rv a2, iv 0, iv 6, iv 0, iv c0] []) (fun t k => XS.iinc X77.here hx rfl (hb hby d13_32) rfl (l' := #[rv sb, iv 1, rv a2, iv 0, iv 6, iv 0, iv c0]) rfl k) ?_
    refine own_s T77 (mkF m 38 #[rv sb, iv 1, rv a2, iv 1, iv 6, iv 0, iv c0] []) (fun t k => XS.iinc X77.here hx rfl (hb hby d13_35) rfl (l' := #[rv sb, iv 1, rv a2, iv 1, iv 6, iv 0, iv c0]) rfl k) ?_
    refine own_s T77 (mkF m 41 #[rv sb, iv 1, rv a2, iv 1, iv 6, iv 1, iv c0] []) (fun t k => XS.iinc X77.here hx rfl (hb hby d13_38) rfl (l' := #[rv sb, iv 1, rv a2, iv 1, iv 6, iv 1, iv c0]) rfl k) ?_
    refine own_s T77 (mkF m 3 #[rv sb, iv 1, rv a2, iv 1, iv 6, iv 1, iv c0] []) (fun t k => XS.goto X77.here hx rfl (pc0 := 41) (pc' := 3) rfl (hb hby d13_41) (by decide) (by decide) k) ?_
    refine own_s T77 (mkF m 5 #[rv sb, iv 1, rv a2, iv 1, iv 6, iv 1, iv c0] [.int 1]) (fun t k => XS.iload X77.here hx rfl (hb hby d13_3) rfl k) ?_
    refine own_s T77 (mkF m 7 #[rv sb, iv 1, rv a2, iv 1, iv 6, iv 1, iv c0] [.int 6, .int 1]) (fun t k => XS.iload X77.here hx rfl (hb hby d13_5) rfl k) ?_
    refine own_s T77 (mkF m 10 #[rv sb, iv 1, rv a2, iv 1, iv 6, iv 1, iv c0] []) (fun t k => XS.icmpNo X77.here hx rfl (hb hby d13_7) rfl (tlt (by decide : ((1 : Int32) < (6 : Int32)))).2.1 k) ?_
    refine own_s T77 (mkF m 11 #[rv sb, iv 1, rv a2, iv 1, iv 6, iv 1, iv c0] [.ref sb]) (fun t k => XS.aloadN X77.here hx rfl (hb hby d13_10) rfl rfl k) ?_
    refine own_s T77 (mkF m 12 #[rv sb, iv 1, rv a2, iv 1, iv 6, iv 1, iv c0] [.int 1, .ref sb]) (fun t k => XS.iloadN X77.here hx rfl (hb hby d13_11) rfl k) ?_
    obtain ⟨cl81, Ar81, qa81, S81, M81, H81, U81⟩ := id g78
    have hi81 := inb_of S81 (j := (1 : Int32)) ⟨by decide, by decide⟩
    have hat81 := H81.at hi81 (v := (.int c1)) rfl
    refine own_s T77 (mkF m 13 #[rv sb, iv 1, rv a2, iv 1, iv 6, iv 1, iv c0] [.int c1]) (fun t k => X77.caload hx (j := (1 : Int32)) (v := (.int c1)) (by rw [e77]; exact Ar81.1) (State.isArrayOf_alike hZ.alike Ar81.2.1) Ar81.2.2 hi81 hat81 (g := (mkF m 12 #[rv sb, iv 1, rv a2, iv 1, iv 6, iv 1, iv c0] [.int 1, .ref sb])) rfl rfl (hb hby d13_12) t k) ?_
    refine own_s T77 (mkF m 15 #[rv sb, iv 1, rv a2, iv 1, iv 6, iv 1, iv c1] []) (fun t k => XS.istore X77.here hx rfl (hb hby d13_13) rfl (l' := #[rv sb, iv 1, rv a2, iv 1, iv 6, iv 1, iv c1]) rfl k) ?_
    refine own_s T77 (mkF m 17 #[rv sb, iv 1, rv a2, iv 1, iv 6, iv 1, iv c1] [.int c1]) (fun t k => XS.iload X77.here hx rfl (hb hby d13_15) rfl k) ?_
    refine own_s T77 (mkF m 20 #[rv sb, iv 1, rv a2, iv 1, iv 6, iv 1, iv c1] [.int 255, .int c1]) (fun t k => XS.sipush X77.here hx rfl (hb hby d13_17) k) ?_
    refine own_s T77 (mkF m 26 #[rv sb, iv 1, rv a2, iv 1, iv 6, iv 1, iv c1] []) (fun t k => XS.icmpYes X77.here hx rfl (pc0 := 20) (pc' := 26) rfl (hb hby d13_20) rfl (flt hc1).2.2.2 (by decide) (by decide) k) ?_
    refine own_s T77 (mkF m 27 #[rv sb, iv 1, rv a2, iv 1, iv 6, iv 1, iv c1] [.ref a2]) (fun t k => XS.aloadN X77.here hx rfl (hb hby d13_26) rfl rfl k) ?_
    refine own_s T77 (mkF m 28 #[rv sb, iv 1, rv a2, iv 1, iv 6, iv 1, iv c1] [.int 1, .ref a2]) (fun t k => XS.iloadN X77.here hx rfl (hb hby d13_27) rfl k) ?_
    refine own_s T77 (mkF m 30 #[rv sb, iv 1, rv a2, iv 1, iv 6, iv 1, iv c1] [.int c1, .int 1, .ref a2]) (fun t k => XS.iload X77.here hx rfl (hb hby d13_28) rfl k) ?_
    refine own_s T77 (mkF m 31 #[rv sb, iv 1, rv a2, iv 1, iv 6, iv 1, iv c1] [.int (c1.toInt8.toInt32), .int 1, .ref a2]) (fun t k => XS.i2b X77.here hx rfl (hb hby d13_30) rfl k) ?_
    obtain ⟨cl82, Ar82, qa82, S82, M82, H82, U82⟩ := id g79
    obtain ⟨T82, h82, X82, e82, W82, st82⟩ := stB X77 hx hZ e77 Ar82 (j := (1 : Int32)) (inb_of S82 ⟨by decide, by decide⟩) (g := (mkF m 31 #[rv sb, iv 1, rv a2, iv 1, iv 6, iv 1, iv c1] [.int (c1.toInt8.toInt32), .int 1, .ref a2])) rfl rfl (hb hby d13_31)
    have g83 := g78.other W82 n_sb_a2
    have g84 : Arv Z h82 a2 kb .byte (6 : Int32) [(.int (nar .byte (c0.toInt8.toInt32))), (.int (nar .byte (c1.toInt8.toInt32))), (.int (0 : Int32)), (.int (0 : Int32)), (.int (0 : Int32)), (.int (0 : Int32))] (.int (0 : Int32)) := Arv.set Ar82 qa82 S82 M82 H82 U82 (fits_nar_byte _) W82 1 rfl (Nat.le_of_ble_eq_true rfl)
    have K85 : Keep h0 h82 [a2] := K80.wr W82 (Or.inl (List.mem_of_getElem? (i := 0) rfl))
    have N82 := Fr.snoc X82 N77 o_a2
    have Z82 : n0 ≤ h82.size := (Nat.le_trans Z77 (Nat.le_of_eq W82.size.symm))
    refine own_s T82 (mkF m 32 #[rv sb, iv 1, rv a2, iv 1, iv 6, iv 1, iv c1] []) st82 ?_
    refine own_s T82 (mkF m 35 #[rv sb, iv 2, rv a2, iv 1, iv 6, iv 1, iv c1] []) (fun t k => XS.iinc X82.here hx rfl (hb hby d13_32) rfl (l' := #[rv sb, iv 2, rv a2, iv 1, iv 6, iv 1, iv c1]) rfl k) ?_
    refine own_s T82 (mkF m 38 #[rv sb, iv 2, rv a2, iv 2, iv 6, iv 1, iv c1] []) (fun t k => XS.iinc X82.here hx rfl (hb hby d13_35) rfl (l' := #[rv sb, iv 2, rv a2, iv 2, iv 6, iv 1, iv c1]) rfl k) ?_
    refine own_s T82 (mkF m 41 #[rv sb, iv 2, rv a2, iv 2, iv 6, iv 2, iv c1] []) (fun t k => XS.iinc X82.here hx rfl (hb hby d13_38) rfl (l' := #[rv sb, iv 2, rv a2, iv 2, iv 6, iv 2, iv c1]) rfl k) ?_
    refine own_s T82 (mkF m 3 #[rv sb, iv 2, rv a2, iv 2, iv 6, iv 2, iv c1] []) (fun t k => XS.goto X82.here hx rfl (pc0 := 41) (pc' := 3) rfl (hb hby d13_41) (by decide) (by decide) k) ?_
    refine own_s T82 (mkF m 5 #[rv sb, iv 2, rv a2, iv 2, iv 6, iv 2, iv c1] [.int 2]) (fun t k => XS.iload X82.here hx rfl (hb hby d13_3) rfl k) ?_
    refine own_s T82 (mkF m 7 #[rv sb, iv 2, rv a2, iv 2, iv 6, iv 2, iv c1] [.int 6, .int 2]) (fun t k => XS.iload X82.here hx rfl (hb hby d13_5) rfl k) ?_
    refine own_s T82 (mkF m 10 #[rv sb, iv 2, rv a2, iv 2, iv 6, iv 2, iv c1] []) (fun t k => XS.icmpNo X82.here hx rfl (hb hby d13_7) rfl (tlt (by decide : ((2 : Int32) < (6 : Int32)))).2.1 k) ?_
    refine own_s T82 (mkF m 11 #[rv sb, iv 2, rv a2, iv 2, iv 6, iv 2, iv c1] [.ref sb]) (fun t k => XS.aloadN X82.here hx rfl (hb hby d13_10) rfl rfl k) ?_
    refine own_s T82 (mkF m 12 #[rv sb, iv 2, rv a2, iv 2, iv 6, iv 2, iv c1] [.int 2, .ref sb]) (fun t k => XS.iloadN X82.here hx rfl (hb hby d13_11) rfl k) ?_
    obtain ⟨cl86, Ar86, qa86, S86, M86, H86, U86⟩ := id g83
    have hi86 := inb_of S86 (j := (2 : Int32)) ⟨by decide, by decide⟩
    have hat86 := H86.at hi86 (v := (.int c2)) rfl
    refine own_s T82 (mkF m 13 #[rv sb, iv 2, rv a2, iv 2, iv 6, iv 2, iv c1] [.int c2]) (fun t k => X82.caload hx (j := (2 : Int32)) (v := (.int c2)) (by rw [e82]; exact Ar86.1) (State.isArrayOf_alike hZ.alike Ar86.2.1) Ar86.2.2 hi86 hat86 (g := (mkF m 12 #[rv sb, iv 2, rv a2, iv 2, iv 6, iv 2, iv c1] [.int 2, .ref sb])) rfl rfl (hb hby d13_12) t k) ?_
    refine own_s T82 (mkF m 15 #[rv sb, iv 2, rv a2, iv 2, iv 6, iv 2, iv c2] []) (fun t k => XS.istore X82.here hx rfl (hb hby d13_13) rfl (l' := #[rv sb, iv 2, rv a2, iv 2, iv 6, iv 2, iv c2]) rfl k) ?_
    refine own_s T82 (mkF m 17 #[rv sb, iv 2, rv a2, iv 2, iv 6, iv 2, iv c2] [.int c2]) (fun t k => XS.iload X82.here hx rfl (hb hby d13_15) rfl k) ?_
    refine own_s T82 (mkF m 20 #[rv sb, iv 2, rv a2, iv 2, iv 6, iv 2, iv c2] [.int 255, .int c2]) (fun t k => XS.sipush X82.here hx rfl (hb hby d13_17) k) ?_
    refine own_s T82 (mkF m 26 #[rv sb, iv 2, rv a2, iv 2, iv 6, iv 2, iv c2] []) (fun t k => XS.icmpYes X82.here hx rfl (pc0 := 20) (pc' := 26) rfl (hb hby d13_20) rfl (flt hc2).2.2.2 (by decide) (by decide) k) ?_
    refine own_s T82 (mkF m 27 #[rv sb, iv 2, rv a2, iv 2, iv 6, iv 2, iv c2] [.ref a2]) (fun t k => XS.aloadN X82.here hx rfl (hb hby d13_26) rfl rfl k) ?_
    refine own_s T82 (mkF m 28 #[rv sb, iv 2, rv a2, iv 2, iv 6, iv 2, iv c2] [.int 2, .ref a2]) (fun t k => XS.iloadN X82.here hx rfl (hb hby d13_27) rfl k) ?_
    refine own_s T82 (mkF m 30 #[rv sb, iv 2, rv a2, iv 2, iv 6, iv 2, iv c2] [.int c2, .int 2, .ref a2]) (fun t k => XS.iload X82.here hx rfl (hb hby d13_28) rfl k) ?_
    refine own_s T82 (mkF m 31 #[rv sb, iv 2, rv a2, iv 2, iv 6, iv 2, iv c2] [.int (c2.toInt8.toInt32), .int 2, .ref a2]) (fun t k => XS.i2b X82.here hx rfl (hb hby d13_30) rfl k) ?_
    obtain ⟨cl87, Ar87, qa87, S87, M87, H87, U87⟩ := id g84
    obtain ⟨T87, h87, X87, e87, W87, st87⟩ := stB X82 hx hZ e82 Ar87 (j := (2 : Int32)) (inb_of S87 ⟨by decide, by decide⟩) (g := (mkF m 31 #[rv sb, iv 2, rv a2, iv 2, iv 6, iv 2, iv c2] [.int (c2.toInt8.toInt32), .int 2, .ref a2])) rfl rfl (hb hby d13_31)
    have g88 := g83.other W87 n_sb_a2
    have g89 : Arv Z h87 a2 kb .byte (6 : Int32) [(.int (nar .byte (c0.toInt8.toInt32))), (.int (nar .byte (c1.toInt8.toInt32))), (.int (nar .byte (c2.toInt8.toInt32))), (.int (0 : Int32)), (.int (0 : Int32)), (.int (0 : Int32))] (.int (0 : Int32)) := Arv.set Ar87 qa87 S87 M87 H87 U87 (fits_nar_byte _) W87 2 rfl (Nat.le_of_ble_eq_true rfl)
    have K90 : Keep h0 h87 [a2] := K85.wr W87 (Or.inl (List.mem_of_getElem? (i := 0) rfl))
    have N87 := Fr.snoc X87 N82 o_a2
    have Z87 : n0 ≤ h87.size := (Nat.le_trans Z82 (Nat.le_of_eq W87.size.symm))
    refine own_s T87 (mkF m 32 #[rv sb, iv 2, rv a2, iv 2, iv 6, iv 2, iv c2] []) st87 ?_
    refine own_s T87 (mkF m 35 #[rv sb, iv 3, rv a2, iv 2, iv 6, iv 2, iv c2] []) (fun t k => XS.iinc X87.here hx rfl (hb hby d13_32) rfl (l' := #[rv sb, iv 3, rv a2, iv 2, iv 6, iv 2, iv c2]) rfl k) ?_
    refine own_s T87 (mkF m 38 #[rv sb, iv 3, rv a2, iv 3, iv 6, iv 2, iv c2] []) (fun t k => XS.iinc X87.here hx rfl (hb hby d13_35) rfl (l' := #[rv sb, iv 3, rv a2, iv 3, iv 6, iv 2, iv c2]) rfl k) ?_
    refine own_s T87 (mkF m 41 #[rv sb, iv 3, rv a2, iv 3, iv 6, iv 3, iv c2] []) (fun t k => XS.iinc X87.here hx rfl (hb hby d13_38) rfl (l' := #[rv sb, iv 3, rv a2, iv 3, iv 6, iv 3, iv c2]) rfl k) ?_
    refine own_s T87 (mkF m 3 #[rv sb, iv 3, rv a2, iv 3, iv 6, iv 3, iv c2] []) (fun t k => XS.goto X87.here hx rfl (pc0 := 41) (pc' := 3) rfl (hb hby d13_41) (by decide) (by decide) k) ?_
    refine own_s T87 (mkF m 5 #[rv sb, iv 3, rv a2, iv 3, iv 6, iv 3, iv c2] [.int 3]) (fun t k => XS.iload X87.here hx rfl (hb hby d13_3) rfl k) ?_
    refine own_s T87 (mkF m 7 #[rv sb, iv 3, rv a2, iv 3, iv 6, iv 3, iv c2] [.int 6, .int 3]) (fun t k => XS.iload X87.here hx rfl (hb hby d13_5) rfl k) ?_
    refine own_s T87 (mkF m 10 #[rv sb, iv 3, rv a2, iv 3, iv 6, iv 3, iv c2] []) (fun t k => XS.icmpNo X87.here hx rfl (hb hby d13_7) rfl (tlt (by decide : ((3 : Int32) < (6 : Int32)))).2.1 k) ?_
    refine own_s T87 (mkF m 11 #[rv sb, iv 3, rv a2, iv 3, iv 6, iv 3, iv c2] [.ref sb]) (fun t k => XS.aloadN X87.here hx rfl (hb hby d13_10) rfl rfl k) ?_
    refine own_s T87 (mkF m 12 #[rv sb, iv 3, rv a2, iv 3, iv 6, iv 3, iv c2] [.int 3, .ref sb]) (fun t k => XS.iloadN X87.here hx rfl (hb hby d13_11) rfl k) ?_
    obtain ⟨cl91, Ar91, qa91, S91, M91, H91, U91⟩ := id g88
    have hi91 := inb_of S91 (j := (3 : Int32)) ⟨by decide, by decide⟩
    have hat91 := H91.at hi91 (v := (.int c3)) rfl
    refine own_s T87 (mkF m 13 #[rv sb, iv 3, rv a2, iv 3, iv 6, iv 3, iv c2] [.int c3]) (fun t k => X87.caload hx (j := (3 : Int32)) (v := (.int c3)) (by rw [e87]; exact Ar91.1) (State.isArrayOf_alike hZ.alike Ar91.2.1) Ar91.2.2 hi91 hat91 (g := (mkF m 12 #[rv sb, iv 3, rv a2, iv 3, iv 6, iv 3, iv c2] [.int 3, .ref sb])) rfl rfl (hb hby d13_12) t k) ?_
    refine own_s T87 (mkF m 15 #[rv sb, iv 3, rv a2, iv 3, iv 6, iv 3, iv c3] []) (fun t k => XS.istore X87.here hx rfl (hb hby d13_13) rfl (l' := #[rv sb, iv 3, rv a2, iv 3, iv 6, iv 3, iv c3]) rfl k) ?_
    refine own_s T87 (mkF m 17 #[rv sb, iv 3, rv a2, iv 3, iv 6, iv 3, iv c3] [.int c3]) (fun t k => XS.iload X87.here hx rfl (hb hby d13_15) rfl k) ?_
    refine own_s T87 (mkF m 20 #[rv sb, iv 3, rv a2, iv 3, iv 6, iv 3, iv c3] [.int 255, .int c3]) (fun t k => XS.sipush X87.here hx rfl (hb hby d13_17) k) ?_
    refine own_s T87 (mkF m 26 #[rv sb, iv 3, rv a2, iv 3, iv 6, iv 3, iv c3] []) (fun t k => XS.icmpYes X87.here hx rfl (pc0 := 20) (pc' := 26) rfl (hb hby d13_20) rfl (flt hc3).2.2.2 (by decide) (by decide) k) ?_
    refine own_s T87 (mkF m 27 #[rv sb, iv 3, rv a2, iv 3, iv 6, iv 3, iv c3] [.ref a2]) (fun t k => XS.aloadN X87.here hx rfl (hb hby d13_26) rfl rfl k) ?_
    refine own_s T87 (mkF m 28 #[rv sb, iv 3, rv a2, iv 3, iv 6, iv 3, iv c3] [.int 3, .ref a2]) (fun t k => XS.iloadN X87.here hx rfl (hb hby d13_27) rfl k) ?_
    refine own_s T87 (mkF m 30 #[rv sb, iv 3, rv a2, iv 3, iv 6, iv 3, iv c3] [.int c3, .int 3, .ref a2]) (fun t k => XS.iload X87.here hx rfl (hb hby d13_28) rfl k) ?_
    refine own_s T87 (mkF m 31 #[rv sb, iv 3, rv a2, iv 3, iv 6, iv 3, iv c3] [.int (c3.toInt8.toInt32), .int 3, .ref a2]) (fun t k => XS.i2b X87.here hx rfl (hb hby d13_30) rfl k) ?_
    obtain ⟨cl92, Ar92, qa92, S92, M92, H92, U92⟩ := id g89
    obtain ⟨T92, h92, X92, e92, W92, st92⟩ := stB X87 hx hZ e87 Ar92 (j := (3 : Int32)) (inb_of S92 ⟨by decide, by decide⟩) (g := (mkF m 31 #[rv sb, iv 3, rv a2, iv 3, iv 6, iv 3, iv c3] [.int (c3.toInt8.toInt32), .int 3, .ref a2])) rfl rfl (hb hby d13_31)
    have g93 := g88.other W92 n_sb_a2
    have g94 : Arv Z h92 a2 kb .byte (6 : Int32) [(.int (nar .byte (c0.toInt8.toInt32))), (.int (nar .byte (c1.toInt8.toInt32))), (.int (nar .byte (c2.toInt8.toInt32))), (.int (nar .byte (c3.toInt8.toInt32))), (.int (0 : Int32)), (.int (0 : Int32))] (.int (0 : Int32)) := Arv.set Ar92 qa92 S92 M92 H92 U92 (fits_nar_byte _) W92 3 rfl (Nat.le_of_ble_eq_true rfl)
    have K95 : Keep h0 h92 [a2] := K90.wr W92 (Or.inl (List.mem_of_getElem? (i := 0) rfl))
    have N92 := Fr.snoc X92 N87 o_a2
    have Z92 : n0 ≤ h92.size := (Nat.le_trans Z87 (Nat.le_of_eq W92.size.symm))
    refine own_s T92 (mkF m 32 #[rv sb, iv 3, rv a2, iv 3, iv 6, iv 3, iv c3] []) st92 ?_
    refine own_s T92 (mkF m 35 #[rv sb, iv 4, rv a2, iv 3, iv 6, iv 3, iv c3] []) (fun t k => XS.iinc X92.here hx rfl (hb hby d13_32) rfl (l' := #[rv sb, iv 4, rv a2, iv 3, iv 6, iv 3, iv c3]) rfl k) ?_
    refine own_s T92 (mkF m 38 #[rv sb, iv 4, rv a2, iv 4, iv 6, iv 3, iv c3] []) (fun t k => XS.iinc X92.here hx rfl (hb hby d13_35) rfl (l' := #[rv sb, iv 4, rv a2, iv 4, iv 6, iv 3, iv c3]) rfl k) ?_
    refine own_s T92 (mkF m 41 #[rv sb, iv 4, rv a2, iv 4, iv 6, iv 4, iv c3] []) (fun t k => XS.iinc X92.here hx rfl (hb hby d13_38) rfl (l' := #[rv sb, iv 4, rv a2, iv 4, iv 6, iv 4, iv c3]) rfl k) ?_
    refine own_s T92 (mkF m 3 #[rv sb, iv 4, rv a2, iv 4, iv 6, iv 4, iv c3] []) (fun t k => XS.goto X92.here hx rfl (pc0 := 41) (pc' := 3) rfl (hb hby d13_41) (by decide) (by decide) k) ?_
    refine own_s T92 (mkF m 5 #[rv sb, iv 4, rv a2, iv 4, iv 6, iv 4, iv c3] [.int 4]) (fun t k => XS.iload X92.here hx rfl (hb hby d13_3) rfl k) ?_
    refine own_s T92 (mkF m 7 #[rv sb, iv 4, rv a2, iv 4, iv 6, iv 4, iv c3] [.int 6, .int 4]) (fun t k => XS.iload X92.here hx rfl (hb hby d13_5) rfl k) ?_
    refine own_s T92 (mkF m 10 #[rv sb, iv 4, rv a2, iv 4, iv 6, iv 4, iv c3] []) (fun t k => XS.icmpNo X92.here hx rfl (hb hby d13_7) rfl (tlt (by decide : ((4 : Int32) < (6 : Int32)))).2.1 k) ?_
    refine own_s T92 (mkF m 11 #[rv sb, iv 4, rv a2, iv 4, iv 6, iv 4, iv c3] [.ref sb]) (fun t k => XS.aloadN X92.here hx rfl (hb hby d13_10) rfl rfl k) ?_
    refine own_s T92 (mkF m 12 #[rv sb, iv 4, rv a2, iv 4, iv 6, iv 4, iv c3] [.int 4, .ref sb]) (fun t k => XS.iloadN X92.here hx rfl (hb hby d13_11) rfl k) ?_
    obtain ⟨cl96, Ar96, qa96, S96, M96, H96, U96⟩ := id g93
    have hi96 := inb_of S96 (j := (4 : Int32)) ⟨by decide, by decide⟩
    have hat96 := H96.at hi96 (v := (.int c4)) rfl
    refine own_s T92 (mkF m 13 #[rv sb, iv 4, rv a2, iv 4, iv 6, iv 4, iv c3] [.int c4]) (fun t k => X92.caload hx (j := (4 : Int32)) (v := (.int c4)) (by rw [e92]; exact Ar96.1) (State.isArrayOf_alike hZ.alike Ar96.2.1) Ar96.2.2 hi96 hat96 (g := (mkF m 12 #[rv sb, iv 4, rv a2, iv 4, iv 6, iv 4, iv c3] [.int 4, .ref sb])) rfl rfl (hb hby d13_12) t k) ?_
    refine own_s T92 (mkF m 15 #[rv sb, iv 4, rv a2, iv 4, iv 6, iv 4, iv c4] []) (fun t k => XS.istore X92.here hx rfl (hb hby d13_13) rfl (l' := #[rv sb, iv 4, rv a2, iv 4, iv 6, iv 4, iv c4]) rfl k) ?_
    refine own_s T92 (mkF m 17 #[rv sb, iv 4, rv a2, iv 4, iv 6, iv 4, iv c4] [.int c4]) (fun t k => XS.iload X92.here hx rfl (hb hby d13_15) rfl k) ?_
    refine own_s T92 (mkF m 20 #[rv sb, iv 4, rv a2, iv 4, iv 6, iv 4, iv c4] [.int 255, .int c4]) (fun t k => XS.sipush X92.here hx rfl (hb hby d13_17) k) ?_
    refine own_s T92 (mkF m 26 #[rv sb, iv 4, rv a2, iv 4, iv 6, iv 4, iv c4] []) (fun t k => XS.icmpYes X92.here hx rfl (pc0 := 20) (pc' := 26) rfl (hb hby d13_20) rfl (flt hc4).2.2.2 (by decide) (by decide) k) ?_
    refine own_s T92 (mkF m 27 #[rv sb, iv 4, rv a2, iv 4, iv 6, iv 4, iv c4] [.ref a2]) (fun t k => XS.aloadN X92.here hx rfl (hb hby d13_26) rfl rfl k) ?_
    refine own_s T92 (mkF m 28 #[rv sb, iv 4, rv a2, iv 4, iv 6, iv 4, iv c4] [.int 4, .ref a2]) (fun t k => XS.iloadN X92.here hx rfl (hb hby d13_27) rfl k) ?_
    refine own_s T92 (mkF m 30 #[rv sb, iv 4, rv a2, iv 4, iv 6, iv 4, iv c4] [.int c4, .int 4, .ref a2]) (fun t k => XS.iload X92.here hx rfl (hb hby d13_28) rfl k) ?_
    refine own_s T92 (mkF m 31 #[rv sb, iv 4, rv a2, iv 4, iv 6, iv 4, iv c4] [.int (c4.toInt8.toInt32), .int 4, .ref a2]) (fun t k => XS.i2b X92.here hx rfl (hb hby d13_30) rfl k) ?_
    obtain ⟨cl97, Ar97, qa97, S97, M97, H97, U97⟩ := id g94
    obtain ⟨T97, h97, X97, e97, W97, st97⟩ := stB X92 hx hZ e92 Ar97 (j := (4 : Int32)) (inb_of S97 ⟨by decide, by decide⟩) (g := (mkF m 31 #[rv sb, iv 4, rv a2, iv 4, iv 6, iv 4, iv c4] [.int (c4.toInt8.toInt32), .int 4, .ref a2])) rfl rfl (hb hby d13_31)
    have g98 := g93.other W97 n_sb_a2
    have g99 : Arv Z h97 a2 kb .byte (6 : Int32) [(.int (nar .byte (c0.toInt8.toInt32))), (.int (nar .byte (c1.toInt8.toInt32))), (.int (nar .byte (c2.toInt8.toInt32))), (.int (nar .byte (c3.toInt8.toInt32))), (.int (nar .byte (c4.toInt8.toInt32))), (.int (0 : Int32))] (.int (0 : Int32)) := Arv.set Ar97 qa97 S97 M97 H97 U97 (fits_nar_byte _) W97 4 rfl (Nat.le_of_ble_eq_true rfl)
    have K100 : Keep h0 h97 [a2] := K95.wr W97 (Or.inl (List.mem_of_getElem? (i := 0) rfl))
    have N97 := Fr.snoc X97 N92 o_a2
    have Z97 : n0 ≤ h97.size := (Nat.le_trans Z92 (Nat.le_of_eq W97.size.symm))
    refine own_s T97 (mkF m 32 #[rv sb, iv 4, rv a2, iv 4, iv 6, iv 4, iv c4] []) st97 ?_
    refine own_s T97 (mkF m 35 #[rv sb, iv 5, rv a2, iv 4, iv 6, iv 4, iv c4] []) (fun t k => XS.iinc X97.here hx rfl (hb hby d13_32) rfl (l' := #[rv sb, iv 5, rv a2, iv 4, iv 6, iv 4, iv c4]) rfl k) ?_
    refine own_s T97 (mkF m 38 #[rv sb, iv 5, rv a2, iv 5, iv 6, iv 4, iv c4] []) (fun t k => XS.iinc X97.here hx rfl (hb hby d13_35) rfl (l' := #[rv sb, iv 5, rv a2, iv 5, iv 6, iv 4, iv c4]) rfl k) ?_
    refine own_s T97 (mkF m 41 #[rv sb, iv 5, rv a2, iv 5, iv 6, iv 5, iv c4] []) (fun t k => XS.iinc X97.here hx rfl (hb hby d13_38) rfl (l' := #[rv sb, iv 5, rv a2, iv 5, iv 6, iv 5, iv c4]) rfl k) ?_
    refine own_s T97 (mkF m 3 #[rv sb, iv 5, rv a2, iv 5, iv 6, iv 5, iv c4] []) (fun t k => XS.goto X97.here hx rfl (pc0 := 41) (pc' := 3) rfl (hb hby d13_41) (by decide) (by decide) k) ?_
    refine own_s T97 (mkF m 5 #[rv sb, iv 5, rv a2, iv 5, iv 6, iv 5, iv c4] [.int 5]) (fun t k => XS.iload X97.here hx rfl (hb hby d13_3) rfl k) ?_
    refine own_s T97 (mkF m 7 #[rv sb, iv 5, rv a2, iv 5, iv 6, iv 5, iv c4] [.int 6, .int 5]) (fun t k => XS.iload X97.here hx rfl (hb hby d13_5) rfl k) ?_
    refine own_s T97 (mkF m 10 #[rv sb, iv 5, rv a2, iv 5, iv 6, iv 5, iv c4] []) (fun t k => XS.icmpNo X97.here hx rfl (hb hby d13_7) rfl (tlt (by decide : ((5 : Int32) < (6 : Int32)))).2.1 k) ?_
    refine own_s T97 (mkF m 11 #[rv sb, iv 5, rv a2, iv 5, iv 6, iv 5, iv c4] [.ref sb]) (fun t k => XS.aloadN X97.here hx rfl (hb hby d13_10) rfl rfl k) ?_
    refine own_s T97 (mkF m 12 #[rv sb, iv 5, rv a2, iv 5, iv 6, iv 5, iv c4] [.int 5, .ref sb]) (fun t k => XS.iloadN X97.here hx rfl (hb hby d13_11) rfl k) ?_
    obtain ⟨cl101, Ar101, qa101, S101, M101, H101, U101⟩ := id g98
    have hi101 := inb_of S101 (j := (5 : Int32)) ⟨by decide, by decide⟩
    have hat101 := H101.at hi101 (v := (.int c5)) rfl
    refine own_s T97 (mkF m 13 #[rv sb, iv 5, rv a2, iv 5, iv 6, iv 5, iv c4] [.int c5]) (fun t k => X97.caload hx (j := (5 : Int32)) (v := (.int c5)) (by rw [e97]; exact Ar101.1) (State.isArrayOf_alike hZ.alike Ar101.2.1) Ar101.2.2 hi101 hat101 (g := (mkF m 12 #[rv sb, iv 5, rv a2, iv 5, iv 6, iv 5, iv c4] [.int 5, .ref sb])) rfl rfl (hb hby d13_12) t k) ?_
    refine own_s T97 (mkF m 15 #[rv sb, iv 5, rv a2, iv 5, iv 6, iv 5, iv c5] []) (fun t k => XS.istore X97.here hx rfl (hb hby d13_13) rfl (l' := #[rv sb, iv 5, rv a2, iv 5, iv 6, iv 5, iv c5]) rfl k) ?_
    refine own_s T97 (mkF m 17 #[rv sb, iv 5, rv a2, iv 5, iv 6, iv 5, iv c5] [.int c5]) (fun t k => XS.iload X97.here hx rfl (hb hby d13_15) rfl k) ?_
    refine own_s T97 (mkF m 20 #[rv sb, iv 5, rv a2, iv 5, iv 6, iv 5, iv c5] [.int 255, .int c5]) (fun t k => XS.sipush X97.here hx rfl (hb hby d13_17) k) ?_
    refine own_s T97 (mkF m 26 #[rv sb, iv 5, rv a2, iv 5, iv 6, iv 5, iv c5] []) (fun t k => XS.icmpYes X97.here hx rfl (pc0 := 20) (pc' := 26) rfl (hb hby d13_20) rfl (flt hc5).2.2.2 (by decide) (by decide) k) ?_
    refine own_s T97 (mkF m 27 #[rv sb, iv 5, rv a2, iv 5, iv 6, iv 5, iv c5] [.ref a2]) (fun t k => XS.aloadN X97.here hx rfl (hb hby d13_26) rfl rfl k) ?_
    refine own_s T97 (mkF m 28 #[rv sb, iv 5, rv a2, iv 5, iv 6, iv 5, iv c5] [.int 5, .ref a2]) (fun t k => XS.iloadN X97.here hx rfl (hb hby d13_27) rfl k) ?_
    refine own_s T97 (mkF m 30 #[rv sb, iv 5, rv a2, iv 5, iv 6, iv 5, iv c5] [.int c5, .int 5, .ref a2]) (fun t k => XS.iload X97.here hx rfl (hb hby d13_28) rfl k) ?_
    refine own_s T97 (mkF m 31 #[rv sb, iv 5, rv a2, iv 5, iv 6, iv 5, iv c5] [.int (c5.toInt8.toInt32), .int 5, .ref a2]) (fun t k => XS.i2b X97.here hx rfl (hb hby d13_30) rfl k) ?_
    obtain ⟨cl102, Ar102, qa102, S102, M102, H102, U102⟩ := id g99
    obtain ⟨T102, h102, X102, e102, W102, st102⟩ := stB X97 hx hZ e97 Ar102 (j := (5 : Int32)) (inb_of S102 ⟨by decide, by decide⟩) (g := (mkF m 31 #[rv sb, iv 5, rv a2, iv 5, iv 6, iv 5, iv c5] [.int (c5.toInt8.toInt32), .int 5, .ref a2])) rfl rfl (hb hby d13_31)
    have g103 := g98.other W102 n_sb_a2
    have g104 : Arv Z h102 a2 kb .byte (6 : Int32) [(.int (nar .byte (c0.toInt8.toInt32))), (.int (nar .byte (c1.toInt8.toInt32))), (.int (nar .byte (c2.toInt8.toInt32))), (.int (nar .byte (c3.toInt8.toInt32))), (.int (nar .byte (c4.toInt8.toInt32))), (.int (nar .byte (c5.toInt8.toInt32)))] (.int (0 : Int32)) := Arv.set Ar102 qa102 S102 M102 H102 U102 (fits_nar_byte _) W102 5 rfl (Nat.le_of_ble_eq_true rfl)
    have K105 : Keep h0 h102 [a2] := K100.wr W102 (Or.inl (List.mem_of_getElem? (i := 0) rfl))
    have N102 := Fr.snoc X102 N97 o_a2
    have Z102 : n0 ≤ h102.size := (Nat.le_trans Z97 (Nat.le_of_eq W102.size.symm))
    refine own_s T102 (mkF m 32 #[rv sb, iv 5, rv a2, iv 5, iv 6, iv 5, iv c5] []) st102 ?_
    refine own_s T102 (mkF m 35 #[rv sb, iv 6, rv a2, iv 5, iv 6, iv 5, iv c5] []) (fun t k => XS.iinc X102.here hx rfl (hb hby d13_32) rfl (l' := #[rv sb, iv 6, rv a2, iv 5, iv 6, iv 5, iv c5]) rfl k) ?_
    refine own_s T102 (mkF m 38 #[rv sb, iv 6, rv a2, iv 6, iv 6, iv 5, iv c5] []) (fun t k => XS.iinc X102.here hx rfl (hb hby d13_35) rfl (l' := #[rv sb, iv 6, rv a2, iv 6, iv 6, iv 5, iv c5]) rfl k) ?_
    refine own_s T102 (mkF m 41 #[rv sb, iv 6, rv a2, iv 6, iv 6, iv 6, iv c5] []) (fun t k => XS.iinc X102.here hx rfl (hb hby d13_38) rfl (l' := #[rv sb, iv 6, rv a2, iv 6, iv 6, iv 6, iv c5]) rfl k) ?_
    refine own_s T102 (mkF m 3 #[rv sb, iv 6, rv a2, iv 6, iv 6, iv 6, iv c5] []) (fun t k => XS.goto X102.here hx rfl (pc0 := 41) (pc' := 3) rfl (hb hby d13_41) (by decide) (by decide) k) ?_
    refine own_s T102 (mkF m 5 #[rv sb, iv 6, rv a2, iv 6, iv 6, iv 6, iv c5] [.int 6]) (fun t k => XS.iload X102.here hx rfl (hb hby d13_3) rfl k) ?_
    refine own_s T102 (mkF m 7 #[rv sb, iv 6, rv a2, iv 6, iv 6, iv 6, iv c5] [.int 6, .int 6]) (fun t k => XS.iload X102.here hx rfl (hb hby d13_5) rfl k) ?_
    refine own_s T102 (mkF m 44 #[rv sb, iv 6, rv a2, iv 6, iv 6, iv 6, iv c5] []) (fun t k => XS.icmpYes X102.here hx rfl (pc0 := 7) (pc' := 44) rfl (hb hby d13_7) rfl (flt (by decide : ¬ ((6 : Int32) < (6 : Int32)))).2.1 (by decide) (by decide) k) ?_
    refine own_s T102 (mkF m 46 #[rv sb, iv 6, rv a2, iv 6, iv 6, iv 6, iv c5] [.int 6]) (fun t k => XS.iload X102.here hx rfl (hb hby d13_44) rfl k) ?_
    refine own_rI X102 hx hlk Bd.returns (hb hby d13_46) ?_ (by decide) (by decide)
    rw [e102]
    exact ⟨[(.int (nar .byte (c0.toInt8.toInt32))), (.int (nar .byte (c1.toInt8.toInt32))), (.int (nar .byte (c2.toInt8.toInt32))), (.int (nar .byte (c3.toInt8.toInt32))), (.int (nar .byte (c4.toInt8.toInt32))), (.int (nar .byte (c5.toInt8.toInt32)))], rfl, N102, K105, g104, (Or.inr (Or.inr (Or.inr (Or.inr (Or.inr (Or.inr (Or.inl ⟨_, _, _, _, _, _, rfl, rfl⟩)))))))⟩
  · have Vp : Arv Z h0 a2 kb .byte (7 : Int32) [(.int (0 : Int32)), (.int (0 : Int32)), (.int (0 : Int32)), (.int (0 : Int32)), (.int (0 : Int32)), (.int (0 : Int32)), (.int (0 : Int32))] (.int (0 : Int32)) := F_1.pad (pad_rep [] (.int (0 : Int32)) 7)
    refine own_s s₁ (mkF m 1 #[rv sb, iv 0, rv a2, iv 0, iv 7, u_, u_] [.int 0]) (fun t k => XS.iconst X0.here hx rfl (hb hby d13_0) k) ?_
    refine own_s s₁ (mkF m 3 #[rv sb, iv 0, rv a2, iv 0, iv 7, iv 0, u_] []) (fun t k => XS.istore X0.here hx rfl (hb hby d13_1) rfl (l' := #[rv sb, iv 0, rv a2, iv 0, iv 7, iv 0, u_]) rfl k) ?_
    refine own_s s₁ (mkF m 5 #[rv sb, iv 0, rv a2, iv 0, iv 7, iv 0, u_] [.int 0]) (fun t k => XS.iload X0.here hx rfl (hb hby d13_3) rfl k) ?_
    refine own_s s₁ (mkF m 7 #[rv sb, iv 0, rv a2, iv 0, iv 7, iv 0, u_] [.int 7, .int 0]) (fun t k => XS.iload X0.here hx rfl (hb hby d13_5) rfl k) ?_
    refine own_s s₁ (mkF m 10 #[rv sb, iv 0, rv a2, iv 0, iv 7, iv 0, u_] []) (fun t k => XS.icmpNo X0.here hx rfl (hb hby d13_7) rfl (tlt (by decide : ((0 : Int32) < (7 : Int32)))).2.1 k) ?_
    refine own_s s₁ (mkF m 11 #[rv sb, iv 0, rv a2, iv 0, iv 7, iv 0, u_] [.ref sb]) (fun t k => XS.aloadN X0.here hx rfl (hb hby d13_10) rfl rfl k) ?_
    refine own_s s₁ (mkF m 12 #[rv sb, iv 0, rv a2, iv 0, iv 7, iv 0, u_] [.int 0, .ref sb]) (fun t k => XS.iloadN X0.here hx rfl (hb hby d13_11) rfl k) ?_
    obtain ⟨cl106, Ar106, qa106, S106, M106, H106, U106⟩ := id F_0
    have hi106 := inb_of S106 (j := (0 : Int32)) ⟨by decide, by decide⟩
    have hat106 := H106.at hi106 (v := (.int c0)) rfl
    refine own_s s₁ (mkF m 13 #[rv sb, iv 0, rv a2, iv 0, iv 7, iv 0, u_] [.int c0]) (fun t k => X0.caload hx (j := (0 : Int32)) (v := (.int c0)) (by rw [e0]; exact Ar106.1) (State.isArrayOf_alike hZ.alike Ar106.2.1) Ar106.2.2 hi106 hat106 (g := (mkF m 12 #[rv sb, iv 0, rv a2, iv 0, iv 7, iv 0, u_] [.int 0, .ref sb])) rfl rfl (hb hby d13_12) t k) ?_
    refine own_s s₁ (mkF m 15 #[rv sb, iv 0, rv a2, iv 0, iv 7, iv 0, iv c0] []) (fun t k => XS.istore X0.here hx rfl (hb hby d13_13) rfl (l' := #[rv sb, iv 0, rv a2, iv 0, iv 7, iv 0, iv c0]) rfl k) ?_
    refine own_s s₁ (mkF m 17 #[rv sb, iv 0, rv a2, iv 0, iv 7, iv 0, iv c0] [.int c0]) (fun t k => XS.iload X0.here hx rfl (hb hby d13_15) rfl k) ?_
    refine own_s s₁ (mkF m 20 #[rv sb, iv 0, rv a2, iv 0, iv 7, iv 0, iv c0] [.int 255, .int c0]) (fun t k => XS.sipush X0.here hx rfl (hb hby d13_17) k) ?_
    refine own_s s₁ (mkF m 26 #[rv sb, iv 0, rv a2, iv 0, iv 7, iv 0, iv c0] []) (fun t k => XS.icmpYes X0.here hx rfl (pc0 := 20) (pc' := 26) rfl (hb hby d13_20) rfl (flt hc0).2.2.2 (by decide) (by decide) k) ?_
    refine own_s s₁ (mkF m 27 #[rv sb, iv 0, rv a2, iv 0, iv 7, iv 0, iv c0] [.ref a2]) (fun t k => XS.aloadN X0.here hx rfl (hb hby d13_26) rfl rfl k) ?_
    refine own_s s₁ (mkF m 28 #[rv sb, iv 0, rv a2, iv 0, iv 7, iv 0, iv c0] [.int 0, .ref a2]) (fun t k => XS.iloadN X0.here hx rfl (hb hby d13_27) rfl k) ?_
    refine own_s s₁ (mkF m 30 #[rv sb, iv 0, rv a2, iv 0, iv 7, iv 0, iv c0] [.int c0, .int 0, .ref a2]) (fun t k => XS.iload X0.here hx rfl (hb hby d13_28) rfl k) ?_
    refine own_s s₁ (mkF m 31 #[rv sb, iv 0, rv a2, iv 0, iv 7, iv 0, iv c0] [.int (c0.toInt8.toInt32), .int 0, .ref a2]) (fun t k => XS.i2b X0.here hx rfl (hb hby d13_30) rfl k) ?_
    obtain ⟨cl107, Ar107, qa107, S107, M107, H107, U107⟩ := id Vp
    obtain ⟨T107, h107, X107, e107, W107, st107⟩ := stB X0 hx hZ e0 Ar107 (j := (0 : Int32)) (inb_of S107 ⟨by decide, by decide⟩) (g := (mkF m 31 #[rv sb, iv 0, rv a2, iv 0, iv 7, iv 0, iv c0] [.int (c0.toInt8.toInt32), .int 0, .ref a2])) rfl rfl (hb hby d13_31)
    have g108 := F_0.other W107 n_sb_a2
    have g109 : Arv Z h107 a2 kb .byte (7 : Int32) [(.int (nar .byte (c0.toInt8.toInt32))), (.int (0 : Int32)), (.int (0 : Int32)), (.int (0 : Int32)), (.int (0 : Int32)), (.int (0 : Int32)), (.int (0 : Int32))] (.int (0 : Int32)) := Arv.set Ar107 qa107 S107 M107 H107 U107 (fits_nar_byte _) W107 0 rfl (Nat.le_of_ble_eq_true rfl)
    have K110 : Keep h0 h107 [a2] := K0.wr W107 (Or.inl (List.mem_of_getElem? (i := 0) rfl))
    have N107 := Fr.snoc X107 N0 o_a2
    have Z107 : n0 ≤ h107.size := (Nat.le_trans Z0 (Nat.le_of_eq W107.size.symm))
    refine own_s T107 (mkF m 32 #[rv sb, iv 0, rv a2, iv 0, iv 7, iv 0, iv c0] []) st107 ?_
    refine own_s T107 (mkF m 35 #[rv sb, iv 1, rv a2, iv 0, iv 7, iv 0, iv c0] []) (fun t k => XS.iinc X107.here hx rfl (hb hby d13_32) rfl (l' := #[rv sb, iv 1, rv a2, iv 0, iv 7, iv 0, iv c0]) rfl k) ?_
    refine own_s T107 (mkF m 38 #[rv sb, iv 1, rv a2, iv 1, iv 7, iv 0, iv c0] []) (fun t k => XS.iinc X107.here hx rfl (hb hby d13_35) rfl (l' := #[rv sb, iv 1, rv a2, iv 1, iv 7, iv 0, iv c0]) rfl k) ?_
    refine own_s T107 (mkF m 41 #[rv sb, iv 1, rv a2, iv 1, iv 7, iv 1, iv c0] []) (fun t k => XS.iinc X107.here hx rfl (hb hby d13_38) rfl (l' := #[rv sb, iv 1, rv a2, iv 1, iv 7, iv 1, iv c0]) rfl k) ?_
    refine own_s T107 (mkF m 3 #[rv sb, iv 1, rv a2, iv 1, iv 7, iv 1, iv c0] []) (fun t k => XS.goto X107.here hx rfl (pc0 := 41) (pc' := 3) rfl (hb hby d13_41) (by decide) (by decide) k) ?_
    refine own_s T107 (mkF m 5 #[rv sb, iv 1, rv a2, iv 1, iv 7, iv 1, iv c0] [.int 1]) (fun t k => XS.iload X107.here hx rfl (hb hby d13_3) rfl k) ?_
    refine own_s T107 (mkF m 7 #[rv sb, iv 1, rv a2, iv 1, iv 7, iv 1, iv c0] [.int 7, .int 1]) (fun t k => XS.iload X107.here hx rfl (hb hby d13_5) rfl k) ?_
    refine own_s T107 (mkF m 10 #[rv sb, iv 1, rv a2, iv 1, iv 7, iv 1, iv c0] []) (fun t k => XS.icmpNo X107.here hx rfl (hb hby d13_7) rfl (tlt (by decide : ((1 : Int32) < (7 : Int32)))).2.1 k) ?_
    refine own_s T107 (mkF m 11 #[rv sb, iv 1, rv a2, iv 1, iv 7, iv 1, iv c0] [.ref sb]) (fun t k => XS.aloadN X107.here hx rfl (hb hby d13_10) rfl rfl k) ?_
    refine own_s T107 (mkF m 12 #[rv sb, iv 1, rv a2, iv 1, iv 7, iv 1, iv c0] [.int 1, .ref sb]) (fun t k => XS.iloadN X107.here hx rfl (hb hby d13_11) rfl k) ?_
    obtain ⟨cl111, Ar111, qa111, S111, M111, H111, U111⟩ := id g108
    have hi111 := inb_of S111 (j := (1 : Int32)) ⟨by decide, by decide⟩
    have hat111 := H111.at hi111 (v := (.int c1)) rfl
    refine own_s T107 (mkF m 13 #[rv sb, iv 1, rv a2, iv 1, iv 7, iv 1, iv c0] [.int c1]) (fun t k => X107.caload hx (j := (1 : Int32)) (v := (.int c1)) (by rw [e107]; exact Ar111.1) (State.isArrayOf_alike hZ.alike Ar111.2.1) Ar111.2.2 hi111 hat111 (g := (mkF m 12 #[rv sb, iv 1, rv a2, iv 1, iv 7, iv 1, iv c0] [.int 1, .ref sb])) rfl rfl (hb hby d13_12) t k) ?_
    refine own_s T107 (mkF m 15 #[rv sb, iv 1, rv a2, iv 1, iv 7, iv 1, iv c1] []) (fun t k => XS.istore X107.here hx rfl (hb hby d13_13) rfl (l' := #[rv sb, iv 1, rv a2, iv 1, iv 7, iv 1, iv c1]) rfl k) ?_
    refine own_s T107 (mkF m 17 #[rv sb, iv 1, rv a2, iv 1, iv 7, iv 1, iv c1] [.int c1]) (fun t k => XS.iload X107.here hx rfl (hb hby d13_15) rfl k) ?_
    refine own_s T107 (mkF m 20 #[rv sb, iv 1, rv a2, iv 1, iv 7, iv 1, iv c1] [.int 255, .int c1]) (fun t k => XS.sipush X107.here hx rfl (hb hby d13_17) k) ?_
    refine own_s T107 (mkF m 26 #[rv sb, iv 1, rv a2, iv 1, iv 7, iv 1, iv c1] []) (fun t k => XS.icmpYes X107.here hx rfl (pc0 := 20) (pc' := 26) rfl (hb hby d13_20) rfl (flt hc1).2.2.2 (by decide) (by decide) k) ?_
    refine own_s T107 (mkF m 27 #[rv sb, iv 1, rv a2, iv 1, iv 7, iv 1, iv c1] [.ref a2]) (fun t k => XS.aloadN X107.here hx rfl (hb hby d13_26) rfl rfl k) ?_
    refine own_s T107 (mkF m 28 #[rv sb, iv 1, rv a2, iv 1, iv 7, iv 1, iv c1] [.int 1, .ref a2]) (fun t k => XS.iloadN X107.here hx rfl (hb hby d13_27) rfl k) ?_
    refine own_s T107 (mkF m 30 #[rv sb, iv 1, rv a2, iv 1, iv 7, iv 1, iv c1] [.int c1, .int 1, .ref a2]) (fun t k => XS.iload X107.here hx rfl (hb hby d13_28) rfl k) ?_
    refine own_s T107 (mkF m 31 #[rv sb, iv 1, rv a2, iv 1, iv 7, iv 1, iv c1] [.int (c1.toInt8.toInt32), .int 1, .ref a2]) (fun t k => XS.i2b X107.here hx rfl (hb hby d13_30) rfl k) ?_
    obtain ⟨cl112, Ar112, qa112, S112, M112, H112, U112⟩ := id g109
    obtain ⟨T112, h112, X112, e112, W112, st112⟩ := stB X107 hx hZ e107 Ar112 (j := (1 : Int32)) (inb_of S112 ⟨by decide, by decide⟩) (g := (mkF m 31 #[rv sb, iv 1, rv a2, iv 1, iv 7, iv 1, iv c1] [.int (c1.toInt8.toInt32), .int 1, .ref a2])) rfl rfl (hb hby d13_31)
    have g113 := g108.other W112 n_sb_a2
    have g114 : Arv Z h112 a2 kb .byte (7 : Int32) [(.int (nar .byte (c0.toInt8.toInt32))), (.int (nar .byte (c1.toInt8.toInt32))), (.int (0 : Int32)), (.int (0 : Int32)), (.int (0 : Int32)), (.int (0 : Int32)), (.int (0 : Int32))] (.int (0 : Int32)) := Arv.set Ar112 qa112 S112 M112 H112 U112 (fits_nar_byte _) W112 1 rfl (Nat.le_of_ble_eq_true rfl)
    have K115 : Keep h0 h112 [a2] := K110.wr W112 (Or.inl (List.mem_of_getElem? (i := 0) rfl))
    have N112 := Fr.snoc X112 N107 o_a2
    have Z112 : n0 ≤ h112.size := (Nat.le_trans Z107 (Nat.le_of_eq W112.size.symm))
    refine own_s T112 (mkF m 32 #[rv sb, iv 1, rv a2, iv 1, iv 7, iv 1, iv c1] []) st112 ?_
    refine own_s T112 (mkF m 35 #[rv sb, iv 2, rv a2, iv 1, iv 7, iv 1, iv c1] []) (fun t k => XS.iinc X112.here hx rfl (hb hby d13_32) rfl (l' := #[rv sb, iv 2, rv a2, iv 1, iv 7, iv 1, iv c1]) rfl k) ?_
    refine own_s T112 (mkF m 38 #[rv sb, iv 2, rv a2, iv 2, iv 7, iv 1, iv c1] []) (fun t k => XS.iinc X112.here hx rfl (hb hby d13_35) rfl (l' := #[rv sb, iv 2, rv a2, iv 2, iv 7, iv 1, iv c1]) rfl k) ?_
    refine own_s T112 (mkF m 41 #[rv sb, iv 2, rv a2, iv 2, iv 7, iv 2, iv c1] []) (fun t k => XS.iinc X112.here hx rfl (hb hby d13_38) rfl (l' := #[rv sb, iv 2, rv a2, iv 2, iv 7, iv 2, iv c1]) rfl k) ?_
    refine own_s T112 (mkF m 3 #[rv sb, iv 2, rv a2, iv 2, iv 7, iv 2, iv c1] []) (fun t k => XS.goto X112.here hx rfl (pc0 := 41) (pc' := 3) rfl (hb hby d13_41) (by decide) (by decide) k) ?_
    refine own_s T112 (mkF m 5 #[rv sb, iv 2, rv a2, iv 2, iv 7, iv 2, iv c1] [.int 2]) (fun t k => XS.iload X112.here hx rfl (hb hby d13_3) rfl k) ?_
    refine own_s T112 (mkF m 7 #[rv sb, iv 2, rv a2, iv 2, iv 7, iv 2, iv c1] [.int 7, .int 2]) (fun t k => XS.iload X112.here hx rfl (hb hby d13_5) rfl k) ?_
    refine own_s T112 (mkF m 10 #[rv sb, iv 2, rv a2, iv 2, iv 7, iv 2, iv c1] []) (fun t k => XS.icmpNo X112.here hx rfl (hb hby d13_7) rfl (tlt (by decide : ((2 : Int32) < (7 : Int32)))).2.1 k) ?_
    refine own_s T112 (mkF m 11 #[rv sb, iv 2, rv a2, iv 2, iv 7, iv 2, iv c1] [.ref sb]) (fun t k => XS.aloadN X112.here hx rfl (hb hby d13_10) rfl rfl k) ?_
    refine own_s T112 (mkF m 12 #[rv sb, iv 2, rv a2, iv 2, iv 7, iv 2, iv c1] [.int 2, .ref sb]) (fun t k => XS.iloadN X112.here hx rfl (hb hby d13_11) rfl k) ?_
    obtain ⟨cl116, Ar116, qa116, S116, M116, H116, U116⟩ := id g113
    have hi116 := inb_of S116 (j := (2 : Int32)) ⟨by decide, by decide⟩
    have hat116 := H116.at hi116 (v := (.int c2)) rfl
    refine own_s T112 (mkF m 13 #[rv sb, iv 2, rv a2, iv 2, iv 7, iv 2, iv c1] [.int c2]) (fun t k => X112.caload hx (j := (2 : Int32)) (v := (.int c2)) (by rw [e112]; exact Ar116.1) (State.isArrayOf_alike hZ.alike Ar116.2.1) Ar116.2.2 hi116 hat116 (g := (mkF m 12 #[rv sb, iv 2, rv a2, iv 2, iv 7, iv 2, iv c1] [.int 2, .ref sb])) rfl rfl (hb hby d13_12) t k) ?_
    refine own_s T112 (mkF m 15 #[rv sb, iv 2, rv a2, iv 2, iv 7, iv 2, iv c2] []) (fun t k => XS.istore X112.here hx rfl (hb hby d13_13) rfl (l' := #[rv sb, iv 2, rv a2, iv 2, iv 7, iv 2, iv c2]) rfl k) ?_
    refine own_s T112 (mkF m 17 #[rv sb, iv 2, rv a2, iv 2, iv 7, iv 2, iv c2] [.int c2]) (fun t k => XS.iload X112.here hx rfl (hb hby d13_15) rfl k) ?_
    refine own_s T112 (mkF m 20 #[rv sb, iv 2, rv a2, iv 2, iv 7, iv 2, iv c2] [.int 255, .int c2]) (fun t k => XS.sipush X112.here hx rfl (hb hby d13_17) k) ?_
    refine own_s T112 (mkF m 26 #[rv sb, iv 2, rv a2, iv 2, iv 7, iv 2, iv c2] []) (fun t k => XS.icmpYes X112.here hx rfl (pc0 := 20) (pc' := 26) rfl (hb hby d13_20) rfl (flt hc2).2.2.2 (by decide) (by decide) k) ?_
    refine own_s T112 (mkF m 27 #[rv sb, iv 2, rv a2, iv 2, iv 7, iv 2, iv c2] [.ref a2]) (fun t k => XS.aloadN X112.here hx rfl (hb hby d13_26) rfl rfl k) ?_
    refine own_s T112 (mkF m 28 #[rv sb, iv 2, rv a2, iv 2, iv 7, iv 2, iv c2] [.int 2, .ref a2]) (fun t k => XS.iloadN X112.here hx rfl (hb hby d13_27) rfl k) ?_
    refine own_s T112 (mkF m 30 #[rv sb, iv 2, rv a2, iv 2, iv 7, iv 2, iv c2] [.int c2, .int 2, .ref a2]) (fun t k => XS.iload X112.here hx rfl (hb hby d13_28) rfl k) ?_
    refine own_s T112 (mkF m 31 #[rv sb, iv 2, rv a2, iv 2, iv 7, iv 2, iv c2] [.int (c2.toInt8.toInt32), .int 2, .ref a2]) (fun t k => XS.i2b X112.here hx rfl (hb hby d13_30) rfl k) ?_
    obtain ⟨cl117, Ar117, qa117, S117, M117, H117, U117⟩ := id g114
    obtain ⟨T117, h117, X117, e117, W117, st117⟩ := stB X112 hx hZ e112 Ar117 (j := (2 : Int32)) (inb_of S117 ⟨by decide, by decide⟩) (g := (mkF m 31 #[rv sb, iv 2, rv a2, iv 2, iv 7, iv 2, iv c2] [.int (c2.toInt8.toInt32), .int 2, .ref a2])) rfl rfl (hb hby d13_31)
    have g118 := g113.other W117 n_sb_a2
    have g119 : Arv Z h117 a2 kb .byte (7 : Int32) [(.int (nar .byte (c0.toInt8.toInt32))), (.int (nar .byte (c1.toInt8.toInt32))), (.int (nar .byte (c2.toInt8.toInt32))), (.int (0 : Int32)), (.int (0 : Int32)), (.int (0 : Int32)), (.int (0 : Int32))] (.int (0 : Int32)) := Arv.set Ar117 qa117 S117 M117 H117 U117 (fits_nar_byte _) W117 2 rfl (Nat.le_of_ble_eq_true rfl)
    have K120 : Keep h0 h117 [a2] := K115.wr W117 (Or.inl (List.mem_of_getElem? (i := 0) rfl))
    have N117 := Fr.snoc X117 N112 o_a2
    have Z117 : n0 ≤ h117.size := (Nat.le_trans Z112 (Nat.le_of_eq W117.size.symm))
    refine own_s T117 (mkF m 32 #[rv sb, iv 2, rv a2, iv 2, iv 7, iv 2, iv c2] []) st117 ?_
    refine own_s T117 (mkF m 35 #[rv sb, iv 3, rv a2, iv 2, iv 7, iv 2, iv c2] []) (fun t k => XS.iinc X117.here hx rfl (hb hby d13_32) rfl (l' := #[rv sb, iv 3, rv a2, iv 2, iv 7, iv 2, iv c2]) rfl k) ?_
    refine own_s T117 (mkF m 38 #[rv sb, iv 3, rv a2, iv 3, iv 7, iv 2, iv c2] []) (fun t k => XS.iinc X117.here hx rfl (hb hby d13_35) rfl (l' := #[rv sb, iv 3, rv a2, iv 3, iv 7, iv 2, iv c2]) rfl k) ?_
    refine own_s T117 (mkF m 41 #[rv sb, iv 3, rv a2, iv 3, iv 7, iv 3, iv c2] []) (fun t k => XS.iinc X117.here hx rfl (hb hby d13_38) rfl (l' := #[rv sb, iv 3, rv a2, iv 3, iv 7, iv 3, iv c2]) rfl k) ?_
    refine own_s T117 (mkF m 3 #[rv sb, iv 3, rv a2, iv 3, iv 7, iv 3, iv c2] []) (fun t k => XS.goto X117.here hx rfl (pc0 := 41) (pc' := 3) rfl (hb hby d13_41) (by decide) (by decide) k) ?_
    refine own_s T117 (mkF m 5 #[rv sb, iv 3, rv a2, iv 3, iv 7, iv 3, iv c2] [.int 3]) (fun t k => XS.iload X117.here hx rfl (hb hby d13_3) rfl k) ?_
    refine own_s T117 (mkF m 7 #[rv sb, iv 3, rv a2, iv 3, iv 7, iv 3, iv c2] [.int 7, .int 3]) (fun t k => XS.iload X117.here hx rfl (hb hby d13_5) rfl k) ?_
    refine own_s T117 (mkF m 10 #[rv sb, iv 3, rv a2, iv 3, iv 7, iv 3, iv c2] []) (fun t k => XS.icmpNo X117.here hx rfl (hb hby d13_7) rfl (tlt (by decide : ((3 : Int32) < (7 : Int32)))).2.1 k) ?_
    refine own_s T117 (mkF m 11 #[rv sb, iv 3, rv a2, iv 3, iv 7, iv 3, iv c2] [.ref sb]) (fun t k => XS.aloadN X117.here hx rfl (hb hby d13_10) rfl rfl k) ?_
    refine own_s T117 (mkF m 12 #[rv sb, iv 3, rv a2, iv 3, iv 7, iv 3, iv c2] [.int 3, .ref sb]) (fun t k => XS.iloadN X117.here hx rfl (hb hby d13_11) rfl k) ?_
    obtain ⟨cl121, Ar121, qa121, S121, M121, H121, U121⟩ := id g118
    have hi121 := inb_of S121 (j := (3 : Int32)) ⟨by decide, by decide⟩
    have hat121 := H121.at hi121 (v := (.int c3)) rfl
    refine own_s T117 (mkF m 13 #[rv sb, iv 3, rv a2, iv 3, iv 7, iv 3, iv c2] [.int c3]) (fun t k => X117.caload hx (j := (3 : Int32)) (v := (.int c3)) (by rw [e117]; exact Ar121.1) (State.isArrayOf_alike hZ.alike Ar121.2.1) Ar121.2.2 hi121 hat121 (g := (mkF m 12 #[rv sb, iv 3, rv a2, iv 3, iv 7, iv 3, iv c2] [.int 3, .ref sb])) rfl rfl (hb hby d13_12) t k) ?_
    refine own_s T117 (mkF m 15 #[rv sb, iv 3, rv a2, iv 3, iv 7, iv 3, iv c3] []) (fun t k => XS.istore X117.here hx rfl (hb hby d13_13) rfl (l' := #[rv sb, iv 3, rv a2, iv 3, iv 7, iv 3, iv c3]) rfl k) ?_
    refine own_s T117 (mkF m 17 #[rv sb, iv 3, rv a2, iv 3, iv 7, iv 3, iv c3] [.int c3]) (fun t k => XS.iload X117.here hx rfl (hb hby d13_15) rfl k) ?_
    refine own_s T117 (mkF m 20 #[rv sb, iv 3, rv a2, iv 3, iv 7, iv 3, iv c3] [.int 255, .int c3]) (fun t k => XS.sipush X117.here hx rfl (hb hby d13_17) k) ?_
    refine own_s T117 (mkF m 26 #[rv sb, iv 3, rv a2, iv 3, iv 7, iv 3, iv c3] []) (fun t k => XS.icmpYes X117.here hx rfl (pc0 := 20) (pc' := 26) rfl (hb hby d13_20) rfl (flt hc3).2.2.2 (by decide) (by decide) k) ?_
    refine own_s T117 (mkF m 27 #[rv sb, iv 3, rv a2, iv 3, iv 7, iv 3, iv c3] [.ref a2]) (fun t k => XS.aloadN X117.here hx rfl (hb hby d13_26) rfl rfl k) ?_
    refine own_s T117 (mkF m 28 #[rv sb, iv 3, rv a2, iv 3, iv 7, iv 3, iv c3] [.int 3, .ref a2]) (fun t k => XS.iloadN X117.here hx rfl (hb hby d13_27) rfl k) ?_
    refine own_s T117 (mkF m 30 #[rv sb, iv 3, rv a2, iv 3, iv 7, iv 3, iv c3] [.int c3, .int 3, .ref a2]) (fun t k => XS.iload X117.here hx rfl (hb hby d13_28) rfl k) ?_
    refine own_s T117 (mkF m 31 #[rv sb, iv 3, rv a2, iv 3, iv 7, iv 3, iv c3] [.int (c3.toInt8.toInt32), .int 3, .ref a2]) (fun t k => XS.i2b X117.here hx rfl (hb hby d13_30) rfl k) ?_
    obtain ⟨cl122, Ar122, qa122, S122, M122, H122, U122⟩ := id g119
    obtain ⟨T122, h122, X122, e122, W122, st122⟩ := stB X117 hx hZ e117 Ar122 (j := (3 : Int32)) (inb_of S122 ⟨by decide, by decide⟩) (g := (mkF m 31 #[rv sb, iv 3, rv a2, iv 3, iv 7, iv 3, iv c3] [.int (c3.toInt8.toInt32), .int 3, .ref a2])) rfl rfl (hb hby d13_31)
    have g123 := g118.other W122 n_sb_a2
    have g124 : Arv Z h122 a2 kb .byte (7 : Int32) [(.int (nar .byte (c0.toInt8.toInt32))), (.int (nar .byte (c1.toInt8.toInt32))), (.int (nar .byte (c2.toInt8.toInt32))), (.int (nar .byte (c3.toInt8.toInt32))), (.int (0 : Int32)), (.int (0 : Int32)), (.int (0 : Int32))] (.int (0 : Int32)) := Arv.set Ar122 qa122 S122 M122 H122 U122 (fits_nar_byte _) W122 3 rfl (Nat.le_of_ble_eq_true rfl)
    have K125 : Keep h0 h122 [a2] := K120.wr W122 (Or.inl (List.mem_of_getElem? (i := 0) rfl))
    have N122 := Fr.snoc X122 N117 o_a2
    have Z122 : n0 ≤ h122.size := (Nat.le_trans Z117 (Nat.le_of_eq W122.size.symm))
    refine own_s T122 (mkF m 32 #[rv sb, iv 3, rv a2, iv 3, iv 7, iv 3, iv c3] []) st122 ?_
    refine own_s T122 (mkF m 35 #[rv sb, iv 4, rv a2, iv 3, iv 7, iv 3, iv c3] []) (fun t k => XS.iinc X122.here hx rfl (hb hby d13_32) rfl (l' := #[rv sb, iv 4, rv a2, iv 3, iv 7, iv 3, iv c3]) rfl k) ?_
    refine own_s T122 (mkF m 38 #[rv sb, iv 4, rv a2, iv 4, iv 7, iv 3, iv c3] []) (fun t k => XS.iinc X122.here hx rfl (hb hby d13_35) rfl (l' := #[rv sb, iv 4, rv a2, iv 4, iv 7, iv 3, iv c3]) rfl k) ?_
    refine own_s T122 (mkF m 41 #[rv sb, iv 4, rv a2, iv 4, iv 7, iv 4, iv c3] []) (fun t k => XS.iinc X122.here hx rfl (hb hby d13_38) rfl (l' := #[rv sb, iv 4, rv a2, iv 4, iv 7, iv 4, iv c3]) rfl k) ?_
    refine own_s T122 (mkF m 3 #[rv sb, iv 4, rv a2, iv 4, iv 7, iv 4, iv c3] []) (fun t k => XS.goto X122.here hx rfl (pc0 := 41) (pc' := 3) rfl (hb hby d13_41) (by decide) (by decide) k) ?_
    refine own_s T122 (mkF m 5 #[rv sb, iv 4, rv a2, iv 4, iv 7, iv 4, iv c3] [.int 4]) (fun t k => XS.iload X122.here hx rfl (hb hby d13_3) rfl k) ?_
    refine own_s T122 (mkF m 7 #[rv sb, iv 4, rv a2, iv 4, iv 7, iv 4, iv c3] [.int 7, .int 4]) (fun t k => XS.iload X122.here hx rfl (hb hby d13_5) rfl k) ?_
    refine own_s T122 (mkF m 10 #[rv sb, iv 4, rv a2, iv 4, iv 7, iv 4, iv c3] []) (fun t k => XS.icmpNo X122.here hx rfl (hb hby d13_7) rfl (tlt (by decide : ((4 : Int32) < (7 : Int32)))).2.1 k) ?_
    refine own_s T122 (mkF m 11 #[rv sb, iv 4, rv a2, iv 4, iv 7, iv 4, iv c3] [.ref sb]) (fun t k => XS.aloadN X122.here hx rfl (hb hby d13_10) rfl rfl k) ?_
    refine own_s T122 (mkF m 12 #[rv sb, iv 4, rv a2, iv 4, iv 7, iv 4, iv c3] [.int 4, .ref sb]) (fun t k => XS.iloadN X122.here hx rfl (hb hby d13_11) rfl k) ?_
    obtain ⟨cl126, Ar126, qa126, S126, M126, H126, U126⟩ := id g123
    have hi126 := inb_of S126 (j := (4 : Int32)) ⟨by decide, by decide⟩
    have hat126 := H126.at hi126 (v := (.int c4)) rfl
    refine own_s T122 (mkF m 13 #[rv sb, iv 4, rv a2, iv 4, iv 7, iv 4, iv c3] [.int c4]) (fun t k => X122.caload hx (j := (4 : Int32)) (v := (.int c4)) (by rw [e122]; exact Ar126.1) (State.isArrayOf_alike hZ.alike Ar126.2.1) Ar126.2.2 hi126 hat126 (g := (mkF m 12 #[rv sb, iv 4, rv a2, iv 4, iv 7, iv 4, iv c3] [.int 4, .ref sb])) rfl rfl (hb hby d13_12) t k) ?_
    refine own_s T122 (mkF m 15 #[rv sb, iv 4, rv a2, iv 4, iv 7, iv 4, iv c4] []) (fun t k => XS.istore X122.here hx rfl (hb hby d13_13) rfl (l' := #[rv sb, iv 4, rv a2, iv 4, iv 7, iv 4, iv c4]) rfl k) ?_
    refine own_s T122 (mkF m 17 #[rv sb, iv 4, rv a2, iv 4, iv 7, iv 4, iv c4] [.int c4]) (fun t k => XS.iload X122.here hx rfl (hb hby d13_15) rfl k) ?_
    refine own_s T122 (mkF m 20 #[rv sb, iv 4, rv a2, iv 4, iv 7, iv 4, iv c4] [.int 255, .int c4]) (fun t k => XS.sipush X122.here hx rfl (hb hby d13_17) k) ?_
    refine own_s T122 (mkF m 26 #[rv sb, iv 4, rv a2, iv 4, iv 7, iv 4, iv c4] []) (fun t k => XS.icmpYes X122.here hx rfl (pc0 := 20) (pc' := 26) rfl (hb hby d13_20) rfl (flt hc4).2.2.2 (by decide) (by decide) k) ?_
    refine own_s T122 (mkF m 27 #[rv sb, iv 4, rv a2, iv 4, iv 7, iv 4, iv c4] [.ref a2]) (fun t k => XS.aloadN X122.here hx rfl (hb hby d13_26) rfl rfl k) ?_
    refine own_s T122 (mkF m 28 #[rv sb, iv 4, rv a2, iv 4, iv 7, iv 4, iv c4] [.int 4, .ref a2]) (fun t k => XS.iloadN X122.here hx rfl (hb hby d13_27) rfl k) ?_
    refine own_s T122 (mkF m 30 #[rv sb, iv 4, rv a2, iv 4, iv 7, iv 4, iv c4] [.int c4, .int 4, .ref a2]) (fun t k => XS.iload X122.here hx rfl (hb hby d13_28) rfl k) ?_
    refine own_s T122 (mkF m 31 #[rv sb, iv 4, rv a2, iv 4, iv 7, iv 4, iv c4] [.int (c4.toInt8.toInt32), .int 4, .ref a2]) (fun t k => XS.i2b X122.here hx rfl (hb hby d13_30) rfl k) ?_
    obtain ⟨cl127, Ar127, qa127, S127, M127, H127, U127⟩ := id g124
    obtain ⟨T127, h127, X127, e127, W127, st127⟩ := stB X122 hx hZ e122 Ar127 (j := (4 : Int32)) (inb_of S127 ⟨by decide, by decide⟩) (g := (mkF m 31 #[rv sb, iv 4, rv a2, iv 4, iv 7, iv 4, iv c4] [.int (c4.toInt8.toInt32), .int 4, .ref a2])) rfl rfl (hb hby d13_31)
    have g128 := g123.other W127 n_sb_a2
    have g129 : Arv Z h127 a2 kb .byte (7 : Int32) [(.int (nar .byte (c0.toInt8.toInt32))), (.int (nar .byte (c1.toInt8.toInt32))), (.int (nar .byte (c2.toInt8.toInt32))), (.int (nar .byte (c3.toInt8.toInt32))), (.int (nar .byte (c4.toInt8.toInt32))), (.int (0 : Int32)), (.int (0 : Int32))] (.int (0 : Int32)) := Arv.set Ar127 qa127 S127 M127 H127 U127 (fits_nar_byte _) W127 4 rfl (Nat.le_of_ble_eq_true rfl)
    have K130 : Keep h0 h127 [a2] := K125.wr W127 (Or.inl (List.mem_of_getElem? (i := 0) rfl))
    have N127 := Fr.snoc X127 N122 o_a2
    have Z127 : n0 ≤ h127.size := (Nat.le_trans Z122 (Nat.le_of_eq W127.size.symm))
    refine own_s T127 (mkF m 32 #[rv sb, iv 4, rv a2, iv 4, iv 7, iv 4, iv c4] []) st127 ?_
    refine own_s T127 (mkF m 35 #[rv sb, iv 5, rv a2, iv 4, iv 7, iv 4, iv c4] []) (fun t k => XS.iinc X127.here hx rfl (hb hby d13_32) rfl (l' := #[rv sb, iv 5, rv a2, iv 4, iv 7, iv 4, iv c4]) rfl k) ?_
    refine own_s T127 (mkF m 38 #[rv sb, iv 5, rv a2, iv 5, iv 7, iv 4, iv c4] []) (fun t k => XS.iinc X127.here hx rfl (hb hby d13_35) rfl (l' := #[rv sb, iv 5, rv a2, iv 5, iv 7, iv 4, iv c4]) rfl k) ?_
    refine own_s T127 (mkF m 41 #[rv sb, iv 5, rv a2, iv 5, iv 7, iv 5, iv c4] []) (fun t k => XS.iinc X127.here hx rfl (hb hby d13_38) rfl (l' := #[rv sb, iv 5, rv a2, iv 5, iv 7, iv 5, iv c4]) rfl k) ?_
    refine own_s T127 (mkF m 3 #[rv sb, iv 5, rv a2, iv 5, iv 7, iv 5, iv c4] []) (fun t k => XS.goto X127.here hx rfl (pc0 := 41) (pc' := 3) rfl (hb hby d13_41) (by decide) (by decide) k) ?_
    refine own_s T127 (mkF m 5 #[rv sb, iv 5, rv a2, iv 5, iv 7, iv 5, iv c4] [.int 5]) (fun t k => XS.iload X127.here hx rfl (hb hby d13_3) rfl k) ?_
    refine own_s T127 (mkF m 7 #[rv sb, iv 5, rv a2, iv 5, iv 7, iv 5, iv c4] [.int 7, .int 5]) (fun t k => XS.iload X127.here hx rfl (hb hby d13_5) rfl k) ?_
    refine own_s T127 (mkF m 10 #[rv sb, iv 5, rv a2, iv 5, iv 7, iv 5, iv c4] []) (fun t k => XS.icmpNo X127.here hx rfl (hb hby d13_7) rfl (tlt (by decide : ((5 : Int32) < (7 : Int32)))).2.1 k) ?_
    refine own_s T127 (mkF m 11 #[rv sb, iv 5, rv a2, iv 5, iv 7, iv 5, iv c4] [.ref sb]) (fun t k => XS.aloadN X127.here hx rfl (hb hby d13_10) rfl rfl k) ?_
    refine own_s T127 (mkF m 12 #[rv sb, iv 5, rv a2, iv 5, iv 7, iv 5, iv c4] [.int 5, .ref sb]) (fun t k => XS.iloadN X127.here hx rfl (hb hby d13_11) rfl k) ?_
    obtain ⟨cl131, Ar131, qa131, S131, M131, H131, U131⟩ := id g128
    have hi131 := inb_of S131 (j := (5 : Int32)) ⟨by decide, by decide⟩
    have hat131 := H131.at hi131 (v := (.int c5)) rfl
    refine own_s T127 (mkF m 13 #[rv sb, iv 5, rv a2, iv 5, iv 7, iv 5, iv c4] [.int c5]) (fun t k => X127.caload hx (j := (5 : Int32)) (v := (.int c5)) (by rw [e127]; exact Ar131.1) (State.isArrayOf_alike hZ.alike Ar131.2.1) Ar131.2.2 hi131 hat131 (g := (mkF m 12 #[rv sb, iv 5, rv a2, iv 5, iv 7, iv 5, iv c4] [.int 5, .ref sb])) rfl rfl (hb hby d13_12) t k) ?_
    refine own_s T127 (mkF m 15 #[rv sb, iv 5, rv a2, iv 5, iv 7, iv 5, iv c5] []) (fun t k => XS.istore X127.here hx rfl (hb hby d13_13) rfl (l' := #[rv sb, iv 5, rv a2, iv 5, iv 7, iv 5, iv c5]) rfl k) ?_
    refine own_s T127 (mkF m 17 #[rv sb, iv 5, rv a2, iv 5, iv 7, iv 5, iv c5] [.int c5]) (fun t k => XS.iload X127.here hx rfl (hb hby d13_15) rfl k) ?_
    refine own_s T127 (mkF m 20 #[rv sb, iv 5, rv a2, iv 5, iv 7, iv 5, iv c5] [.int 255, .int c5]) (fun t k => XS.sipush X127.here hx rfl (hb hby d13_17) k) ?_
    refine own_s T127 (mkF m 26 #[rv sb, iv 5, rv a2, iv 5, iv 7, iv 5, iv c5] []) (fun t k => XS.icmpYes X127.here hx rfl (pc0 := 20) (pc' := 26) rfl (hb hby d13_20) rfl (flt hc5).2.2.2 (by decide) (by decide) k) ?_
    refine own_s T127 (mkF m 27 #[rv sb, iv 5, rv a2, iv 5, iv 7, iv 5, iv c5] [.ref a2]) (fun t k => XS.aloadN X127.here hx rfl (hb hby d13_26) rfl rfl k) ?_
    refine own_s T127 (mkF m 28 #[rv sb, iv 5, rv a2, iv 5, iv 7, iv 5, iv c5] [.int 5, .ref a2]) (fun t k => XS.iloadN X127.here hx rfl (hb hby d13_27) rfl k) ?_
    refine own_s T127 (mkF m 30 #[rv sb, iv 5, rv a2, iv 5, iv 7, iv 5, iv c5] [.int c5, .int 5, .ref a2]) (fun t k => XS.iload X127.here hx rfl (hb hby d13_28) rfl k) ?_
    refine own_s T127 (mkF m 31 #[rv sb, iv 5, rv a2, iv 5, iv 7, iv 5, iv c5] [.int (c5.toInt8.toInt32), .int 5, .ref a2]) (fun t k => XS.i2b X127.here hx rfl (hb hby d13_30) rfl k) ?_
    obtain ⟨cl132, Ar132, qa132, S132, M132, H132, U132⟩ := id g129
    obtain ⟨T132, h132, X132, e132, W132, st132⟩ := stB X127 hx hZ e127 Ar132 (j := (5 : Int32)) (inb_of S132 ⟨by decide, by decide⟩) (g := (mkF m 31 #[rv sb, iv 5, rv a2, iv 5, iv 7, iv 5, iv c5] [.int (c5.toInt8.toInt32), .int 5, .ref a2])) rfl rfl (hb hby d13_31)
    have g133 := g128.other W132 n_sb_a2
    have g134 : Arv Z h132 a2 kb .byte (7 : Int32) [(.int (nar .byte (c0.toInt8.toInt32))), (.int (nar .byte (c1.toInt8.toInt32))), (.int (nar .byte (c2.toInt8.toInt32))), (.int (nar .byte (c3.toInt8.toInt32))), (.int (nar .byte (c4.toInt8.toInt32))), (.int (nar .byte (c5.toInt8.toInt32))), (.int (0 : Int32))] (.int (0 : Int32)) := Arv.set Ar132 qa132 S132 M132 H132 U132 (fits_nar_byte _) W132 5 rfl (Nat.le_of_ble_eq_true rfl)
    have K135 : Keep h0 h132 [a2] := K130.wr W132 (Or.inl (List.mem_of_getElem? (i := 0) rfl))
    have N132 := Fr.snoc X132 N127 o_a2
    have Z132 : n0 ≤ h132.size := (Nat.le_trans Z127 (Nat.le_of_eq W132.size.symm))
    refine own_s T132 (mkF m 32 #[rv sb, iv 5, rv a2, iv 5, iv 7, iv 5, iv c5] []) st132 ?_
    refine own_s T132 (mkF m 35 #[rv sb, iv 6, rv a2, iv 5, iv 7, iv 5, iv c5] []) (fun t k => XS.iinc X132.here hx rfl (hb hby d13_32) rfl (l' := #[rv sb, iv 6, rv a2, iv 5, iv 7, iv 5, iv c5]) rfl k) ?_
    refine own_s T132 (mkF m 38 #[rv sb, iv 6, rv a2, iv 6, iv 7, iv 5, iv c5] []) (fun t k => XS.iinc X132.here hx rfl (hb hby d13_35) rfl (l' := #[rv sb, iv 6, rv a2, iv 6, iv 7, iv 5, iv c5]) rfl k) ?_
    refine own_s T132 (mkF m 41 #[rv sb, iv 6, rv a2, iv 6, iv 7, iv 6, iv c5] []) (fun t k => XS.iinc X132.here hx rfl (hb hby d13_38) rfl (l' := #[rv sb, iv 6, rv a2, iv 6, iv 7, iv 6, iv c5]) rfl k) ?_
    refine own_s T132 (mkF m 3 #[rv sb, iv 6, rv a2, iv 6, iv 7, iv 6, iv c5] []) (fun t k => XS.goto X132.here hx rfl (pc0 := 41) (pc' := 3) rfl (hb hby d13_41) (by decide) (by decide) k) ?_
    refine own_s T132 (mkF m 5 #[rv sb, iv 6, rv a2, iv 6, iv 7, iv 6, iv c5] [.int 6]) (fun t k => XS.iload X132.here hx rfl (hb hby d13_3) rfl k) ?_
    refine own_s T132 (mkF m 7 #[rv sb, iv 6, rv a2, iv 6, iv 7, iv 6, iv c5] [.int 7, .int 6]) (fun t k => XS.iload X132.here hx rfl (hb hby d13_5) rfl k) ?_
    refine own_s T132 (mkF m 10 #[rv sb, iv 6, rv a2, iv 6, iv 7, iv 6, iv c5] []) (fun t k => XS.icmpNo X132.here hx rfl (hb hby d13_7) rfl (tlt (by decide : ((6 : Int32) < (7 : Int32)))).2.1 k) ?_
    refine own_s T132 (mkF m 11 #[rv sb, iv 6, rv a2, iv 6, iv 7, iv 6, iv c5] [.ref sb]) (fun t k => XS.aloadN X132.here hx rfl (hb hby d13_10) rfl rfl k) ?_
    refine own_s T132 (mkF m 12 #[rv sb, iv 6, rv a2, iv 6, iv 7, iv 6, iv c5] [.int 6, .ref sb]) (fun t k => XS.iloadN X132.here hx rfl (hb hby d13_11) rfl k) ?_
    obtain ⟨cl136, Ar136, qa136, S136, M136, H136, U136⟩ := id g133
    have hi136 := inb_of S136 (j := (6 : Int32)) ⟨by decide, by decide⟩
    have hat136 := H136.at hi136 (v := (.int c6)) rfl
    refine own_s T132 (mkF m 13 #[rv sb, iv 6, rv a2, iv 6, iv 7, iv 6, iv c5] [.int c6]) (fun t k => X132.caload hx (j := (6 : Int32)) (v := (.int c6)) (by rw [e132]; exact Ar136.1) (State.isArrayOf_alike hZ.alike Ar136.2.1) Ar136.2.2 hi136 hat136 (g := (mkF m 12 #[rv sb, iv 6, rv a2, iv 6, iv 7, iv 6, iv c5] [.int 6, .ref sb])) rfl rfl (hb hby d13_12) t k) ?_
    refine own_s T132 (mkF m 15 #[rv sb, iv 6, rv a2, iv 6, iv 7, iv 6, iv c6] []) (fun t k => XS.istore X132.here hx rfl (hb hby d13_13) rfl (l' := #[rv sb, iv 6, rv a2, iv 6, iv 7, iv 6, iv c6]) rfl k) ?_
    refine own_s T132 (mkF m 17 #[rv sb, iv 6, rv a2, iv 6, iv 7, iv 6, iv c6] [.int c6]) (fun t k => XS.iload X132.here hx rfl (hb hby d13_15) rfl k) ?_
    refine own_s T132 (mkF m 20 #[rv sb, iv 6, rv a2, iv 6, iv 7, iv 6, iv c6] [.int 255, .int c6]) (fun t k => XS.sipush X132.here hx rfl (hb hby d13_17) k) ?_
    refine own_s T132 (mkF m 26 #[rv sb, iv 6, rv a2, iv 6, iv 7, iv 6, iv c6] []) (fun t k => XS.icmpYes X132.here hx rfl (pc0 := 20) (pc' := 26) rfl (hb hby d13_20) rfl (flt hc6).2.2.2 (by decide) (by decide) k) ?_
    refine own_s T132 (mkF m 27 #[rv sb, iv 6, rv a2, iv 6, iv 7, iv 6, iv c6] [.ref a2]) (fun t k => XS.aloadN X132.here hx rfl (hb hby d13_26) rfl rfl k) ?_
    refine own_s T132 (mkF m 28 #[rv sb, iv 6, rv a2, iv 6, iv 7, iv 6, iv c6] [.int 6, .ref a2]) (fun t k => XS.iloadN X132.here hx rfl (hb hby d13_27) rfl k) ?_
    refine own_s T132 (mkF m 30 #[rv sb, iv 6, rv a2, iv 6, iv 7, iv 6, iv c6] [.int c6, .int 6, .ref a2]) (fun t k => XS.iload X132.here hx rfl (hb hby d13_28) rfl k) ?_
    refine own_s T132 (mkF m 31 #[rv sb, iv 6, rv a2, iv 6, iv 7, iv 6, iv c6] [.int (c6.toInt8.toInt32), .int 6, .ref a2]) (fun t k => XS.i2b X132.here hx rfl (hb hby d13_30) rfl k) ?_
    obtain ⟨cl137, Ar137, qa137, S137, M137, H137, U137⟩ := id g134
    obtain ⟨T137, h137, X137, e137, W137, st137⟩ := stB X132 hx hZ e132 Ar137 (j := (6 : Int32)) (inb_of S137 ⟨by decide, by decide⟩) (g := (mkF m 31 #[rv sb, iv 6, rv a2, iv 6, iv 7, iv 6, iv c6] [.int (c6.toInt8.toInt32), .int 6, .ref a2])) rfl rfl (hb hby d13_31)
    have g138 := g133.other W137 n_sb_a2
    have g139 : Arv Z h137 a2 kb .byte (7 : Int32) [(.int (nar .byte (c0.toInt8.toInt32))), (.int (nar .byte (c1.toInt8.toInt32))), (.int (nar .byte (c2.toInt8.toInt32))), (.int (nar .byte (c3.toInt8.toInt32))), (.int (nar .byte (c4.toInt8.toInt32))), (.int (nar .byte (c5.toInt8.toInt32))), (.int (nar .byte (c6.toInt8.toInt32)))] (.int (0 : Int32)) := Arv.set Ar137 qa137 S137 M137 H137 U137 (fits_nar_byte _) W137 6 rfl (Nat.le_of_ble_eq_true rfl)
    have K140 : Keep h0 h137 [a2] := K135.wr W137 (Or.inl (List.mem_of_getElem? (i := 0) rfl))
    have N137 := Fr.snoc X137 N132 o_a2
    have Z137 : n0 ≤ h137.size := (Nat.le_trans Z132 (Nat.le_of_eq W137.size.symm))
    refine own_s T137 (mkF m 32 #[rv sb, iv 6, rv a2, iv 6, iv 7, iv 6, iv c6] []) st137 ?_
    refine own_s T137 (mkF m 35 #[rv sb, iv 7, rv a2, iv 6, iv 7, iv 6, iv c6] []) (fun t k => XS.iinc X137.here hx rfl (hb hby d13_32) rfl (l' := #[rv sb, iv 7, rv a2, iv 6, iv 7, iv 6, iv c6]) rfl k) ?_
    refine own_s T137 (mkF m 38 #[rv sb, iv 7, rv a2, iv 7, iv 7, iv 6, iv c6] []) (fun t k => XS.iinc X137.here hx rfl (hb hby d13_35) rfl (l' := #[rv sb, iv 7, rv a2, iv 7, iv 7, iv 6, iv c6]) rfl k) ?_
    refine own_s T137 (mkF m 41 #[rv sb, iv 7, rv a2, iv 7, iv 7, iv 7, iv c6] []) (fun t k => XS.iinc X137.here hx rfl (hb hby d13_38) rfl (l' := #[rv sb, iv 7, rv a2, iv 7, iv 7, iv 7, iv c6]) rfl k) ?_
    refine own_s T137 (mkF m 3 #[rv sb, iv 7, rv a2, iv 7, iv 7, iv 7, iv c6] []) (fun t k => XS.goto X137.here hx rfl (pc0 := 41) (pc' := 3) rfl (hb hby d13_41) (by decide) (by decide) k) ?_
    refine own_s T137 (mkF m 5 #[rv sb, iv 7, rv a2, iv 7, iv 7, iv 7, iv c6] [.int 7]) (fun t k => XS.iload X137.here hx rfl (hb hby d13_3) rfl k) ?_
    refine own_s T137 (mkF m 7 #[rv sb, iv 7, rv a2, iv 7, iv 7, iv 7, iv c6] [.int 7, .int 7]) (fun t k => XS.iload X137.here hx rfl (hb hby d13_5) rfl k) ?_
    refine own_s T137 (mkF m 44 #[rv sb, iv 7, rv a2, iv 7, iv 7, iv 7, iv c6] []) (fun t k => XS.icmpYes X137.here hx rfl (pc0 := 7) (pc' := 44) rfl (hb hby d13_7) rfl (flt (by decide : ¬ ((7 : Int32) < (7 : Int32)))).2.1 (by decide) (by decide) k) ?_
    refine own_s T137 (mkF m 46 #[rv sb, iv 7, rv a2, iv 7, iv 7, iv 7, iv c6] [.int 7]) (fun t k => XS.iload X137.here hx rfl (hb hby d13_44) rfl k) ?_
    refine own_rI X137 hx hlk Bd.returns (hb hby d13_46) ?_ (by decide) (by decide)
    rw [e137]
    exact ⟨[(.int (nar .byte (c0.toInt8.toInt32))), (.int (nar .byte (c1.toInt8.toInt32))), (.int (nar .byte (c2.toInt8.toInt32))), (.int (nar .byte (c3.toInt8.toInt32))), (.int (nar .byte (c4.toInt8.toInt32))), (.int (nar .byte (c5.toInt8.toInt32))), (.int (nar .byte (c6.toInt8.toInt32)))], rfl, N137, K140, g139, (Or.inr (Or.inr (Or.inr (Or.inr (Or.inr (Or.inr (Or.inr (Or.inl ⟨_, _, _, _, _, _, _, rfl, rfl⟩))))))))⟩
  · have Vp : Arv Z h0 a2 kb .byte (8 : Int32) [(.int (0 : Int32)), (.int (0 : Int32)), (.int (0 : Int32)), (.int (0 : Int32)), (.int (0 : Int32)), (.int (0 : Int32)), (.int (0 : Int32)), (.int (0 : Int32))] (.int (0 : Int32)) := F_1.pad (pad_rep [] (.int (0 : Int32)) 8)
    refine own_s s₁ (mkF m 1 #[rv sb, iv 0, rv a2, iv 0, iv 8, u_, u_] [.int 0]) (fun t k => XS.iconst X0.here hx rfl (hb hby d13_0) k) ?_
    refine own_s s₁ (mkF m 3 #[rv sb, iv 0, rv a2, iv 0, iv 8, iv 0, u_] []) (fun t k => XS.istore X0.here hx rfl (hb hby d13_1) rfl (l' := #[rv sb, iv 0, rv a2, iv 0, iv 8, iv 0, u_]) rfl k) ?_
    refine own_s s₁ (mkF m 5 #[rv sb, iv 0, rv a2, iv 0, iv 8, iv 0, u_] [.int 0]) (fun t k => XS.iload X0.here hx rfl (hb hby d13_3) rfl k) ?_
    refine own_s s₁ (mkF m 7 #[rv sb, iv 0, rv a2, iv 0, iv 8, iv 0, u_] [.int 8, .int 0]) (fun t k => XS.iload X0.here hx rfl (hb hby d13_5) rfl k) ?_
    refine own_s s₁ (mkF m 10 #[rv sb, iv 0, rv a2, iv 0, iv 8, iv 0, u_] []) (fun t k => XS.icmpNo X0.here hx rfl (hb hby d13_7) rfl (tlt (by decide : ((0 : Int32) < (8 : Int32)))).2.1 k) ?_
    refine own_s s₁ (mkF m 11 #[rv sb, iv 0, rv a2, iv 0, iv 8, iv 0, u_] [.ref sb]) (fun t k => XS.aloadN X0.here hx rfl (hb hby d13_10) rfl rfl k) ?_
    refine own_s s₁ (mkF m 12 #[rv sb, iv 0, rv a2, iv 0, iv 8, iv 0, u_] [.int 0, .ref sb]) (fun t k => XS.iloadN X0.here hx rfl (hb hby d13_11) rfl k) ?_
    obtain ⟨cl141, Ar141, qa141, S141, M141, H141, U141⟩ := id F_0
    have hi141 := inb_of S141 (j := (0 : Int32)) ⟨by decide, by decide⟩
    have hat141 := H141.at hi141 (v := (.int c0)) rfl
    refine own_s s₁ (mkF m 13 #[rv sb, iv 0, rv a2, iv 0, iv 8, iv 0, u_] [.int c0]) (fun t k => X0.caload hx (j := (0 : Int32)) (v := (.int c0)) (by rw [e0]; exact Ar141.1) (State.isArrayOf_alike hZ.alike Ar141.2.1) Ar141.2.2 hi141 hat141 (g := (mkF m 12 #[rv sb, iv 0, rv a2, iv 0, iv 8, iv 0, u_] [.int 0, .ref sb])) rfl rfl (hb hby d13_12) t k) ?_
    refine own_s s₁ (mkF m 15 #[rv sb, iv 0, rv a2, iv 0, iv 8, iv 0, iv c0] []) (fun t k => XS.istore X0.here hx rfl (hb hby d13_13) rfl (l' := #[rv sb, iv 0, rv a2, iv 0, iv 8, iv 0, iv c0]) rfl k) ?_
    refine own_s s₁ (mkF m 17 #[rv sb, iv 0, rv a2, iv 0, iv 8, iv 0, iv c0] [.int c0]) (fun t k => XS.iload X0.here hx rfl (hb hby d13_15) rfl k) ?_
    refine own_s s₁ (mkF m 20 #[rv sb, iv 0, rv a2, iv 0, iv 8, iv 0, iv c0] [.int 255, .int c0]) (fun t k => XS.sipush X0.here hx rfl (hb hby d13_17) k) ?_
    refine own_s s₁ (mkF m 26 #[rv sb, iv 0, rv a2, iv 0, iv 8, iv 0, iv c0] []) (fun t k => XS.icmpYes X0.here hx rfl (pc0 := 20) (pc' := 26) rfl (hb hby d13_20) rfl (flt hc0).2.2.2 (by decide) (by decide) k) ?_
    refine own_s s₁ (mkF m 27 #[rv sb, iv 0, rv a2, iv 0, iv 8, iv 0, iv c0] [.ref a2]) (fun t k => XS.aloadN X0.here hx rfl (hb hby d13_26) rfl rfl k) ?_
    refine own_s s₁ (mkF m 28 #[rv sb, iv 0, rv a2, iv 0, iv 8, iv 0, iv c0] [.int 0, .ref a2]) (fun t k => XS.iloadN X0.here hx rfl (hb hby d13_27) rfl k) ?_
    refine own_s s₁ (mkF m 30 #[rv sb, iv 0, rv a2, iv 0, iv 8, iv 0, iv c0] [.int c0, .int 0, .ref a2]) (fun t k => XS.iload X0.here hx rfl (hb hby d13_28) rfl k) ?_
    refine own_s s₁ (mkF m 31 #[rv sb, iv 0, rv a2, iv 0, iv 8, iv 0, iv c0] [.int (c0.toInt8.toInt32), .int 0, .ref a2]) (fun t k => XS.i2b X0.here hx rfl (hb hby d13_30) rfl k) ?_
    obtain ⟨cl142, Ar142, qa142, S142, M142, H142, U142⟩ := id Vp
    obtain ⟨T142, h142, X142, e142, W142, st142⟩ := stB X0 hx hZ e0 Ar142 (j := (0 : Int32)) (inb_of S142 ⟨by decide, by decide⟩) (g := (mkF m 31 #[rv sb, iv 0, rv a2, iv 0, iv 8, iv 0, iv c0] [.int (c0.toInt8.toInt32), .int 0, .ref a2])) rfl rfl (hb hby d13_31)
    have g143 := F_0.other W142 n_sb_a2
    have g144 : Arv Z h142 a2 kb .byte (8 : Int32) [(.int (nar .byte (c0.toInt8.toInt32))), (.int (0 : Int32)), (.int (0 : Int32)), (.int (0 : Int32)), (.int (0 : Int32)), (.int (0 : Int32)), (.int (0 : Int32)), (.int (0 : Int32))] (.int (0 : Int32)) := Arv.set Ar142 qa142 S142 M142 H142 U142 (fits_nar_byte _) W142 0 rfl (Nat.le_of_ble_eq_true rfl)
    have K145 : Keep h0 h142 [a2] := K0.wr W142 (Or.inl (List.mem_of_getElem? (i := 0) rfl))
    have N142 := Fr.snoc X142 N0 o_a2
    have Z142 : n0 ≤ h142.size := (Nat.le_trans Z0 (Nat.le_of_eq W142.size.symm))
    refine own_s T142 (mkF m 32 #[rv sb, iv 0, rv a2, iv 0, iv 8, iv 0, iv c0] []) st142 ?_
    refine own_s T142 (mkF m 35 #[rv sb, iv 1, rv a2, iv 0, iv 8, iv 0, iv c0] []) (fun t k => XS.iinc X142.here hx rfl (hb hby d13_32) rfl (l' := #[rv sb, iv 1, rv a2, iv 0, iv 8, iv 0, iv c0]) rfl k) ?_
    refine own_s T142 (mkF m 38 #[rv sb, iv 1, rv a2, iv 1, iv 8, iv 0, iv c0] []) (fun t k => XS.iinc X142.here hx rfl (hb hby d13_35) rfl (l' := #[rv sb, iv 1, rv a2, iv 1, iv 8, iv 0, iv c0]) rfl k) ?_
    refine own_s T142 (mkF m 41 #[rv sb, iv 1, rv a2, iv 1, iv 8, iv 1, iv c0] []) (fun t k => XS.iinc X142.here hx rfl (hb hby d13_38) rfl (l' := #[rv sb, iv 1, rv a2, iv 1, iv 8, iv 1, iv c0]) rfl k) ?_
    refine own_s T142 (mkF m 3 #[rv sb, iv 1, rv a2, iv 1, iv 8, iv 1, iv c0] []) (fun t k => XS.goto X142.here hx rfl (pc0 := 41) (pc' := 3) rfl (hb hby d13_41) (by decide) (by decide) k) ?_
    refine own_s T142 (mkF m 5 #[rv sb, iv 1, rv a2, iv 1, iv 8, iv 1, iv c0] [.int 1]) (fun t k => XS.iload X142.here hx rfl (hb hby d13_3) rfl k) ?_
    refine own_s T142 (mkF m 7 #[rv sb, iv 1, rv a2, iv 1, iv 8, iv 1, iv c0] [.int 8, .int 1]) (fun t k => XS.iload X142.here hx rfl (hb hby d13_5) rfl k) ?_
    refine own_s T142 (mkF m 10 #[rv sb, iv 1, rv a2, iv 1, iv 8, iv 1, iv c0] []) (fun t k => XS.icmpNo X142.here hx rfl (hb hby d13_7) rfl (tlt (by decide : ((1 : Int32) < (8 : Int32)))).2.1 k) ?_
    refine own_s T142 (mkF m 11 #[rv sb, iv 1, rv a2, iv 1, iv 8, iv 1, iv c0] [.ref sb]) (fun t k => XS.aloadN X142.here hx rfl (hb hby d13_10) rfl rfl k) ?_
    refine own_s T142 (mkF m 12 #[rv sb, iv 1, rv a2, iv 1, iv 8, iv 1, iv c0] [.int 1, .ref sb]) (fun t k => XS.iloadN X142.here hx rfl (hb hby d13_11) rfl k) ?_
    obtain ⟨cl146, Ar146, qa146, S146, M146, H146, U146⟩ := id g143
    have hi146 := inb_of S146 (j := (1 : Int32)) ⟨by decide, by decide⟩
    have hat146 := H146.at hi146 (v := (.int c1)) rfl
    refine own_s T142 (mkF m 13 #[rv sb, iv 1, rv a2, iv 1, iv 8, iv 1, iv c0] [.int c1]) (fun t k => X142.caload hx (j := (1 : Int32)) (v := (.int c1)) (by rw [e142]; exact Ar146.1) (State.isArrayOf_alike hZ.alike Ar146.2.1) Ar146.2.2 hi146 hat146 (g := (mkF m 12 #[rv sb, iv 1, rv a2, iv 1, iv 8, iv 1, iv c0] [.int 1, .ref sb])) rfl rfl (hb hby d13_12) t k) ?_
    refine own_s T142 (mkF m 15 #[rv sb, iv 1, rv a2, iv 1, iv 8, iv 1, iv c1] []) (fun t k => XS.istore X142.here hx rfl (hb hby d13_13) rfl (l' := #[rv sb, iv 1, rv a2, iv 1, iv 8, iv 1, iv c1]) rfl k) ?_
    refine own_s T142 (mkF m 17 #[rv sb, iv 1, rv a2, iv 1, iv 8, iv 1, iv c1] [.int c1]) (fun t k => XS.iload X142.here hx rfl (hb hby d13_15) rfl k) ?_
    refine own_s T142 (mkF m 20 #[rv sb, iv 1, rv a2, iv 1, iv 8, iv 1, iv c1] [.int 255, .int c1]) (fun t k => XS.sipush X142.here hx rfl (hb hby d13_17) k) ?_
    refine own_s T142 (mkF m 26 #[rv sb, iv 1, rv a2, iv 1, iv 8, iv 1, iv c1] []) (fun t k => XS.icmpYes X142.here hx rfl (pc0 := 20) (pc' := 26) rfl (hb hby d13_20) rfl (flt hc1).2.2.2 (by decide) (by decide) k) ?_
    refine own_s T142 (mkF m 27 #[rv sb, iv 1, rv a2, iv 1, iv 8, iv 1, iv c1] [.ref a2]) (fun t k => XS.aloadN X142.here hx rfl (hb hby d13_26) rfl rfl k) ?_
    refine own_s T142 (mkF m 28 #[rv sb, iv 1, rv a2, iv 1, iv 8, iv 1, iv c1] [.int 1, .ref a2]) (fun t k => XS.iloadN X142.here hx rfl (hb hby d13_27) rfl k) ?_
    refine own_s T142 (mkF m 30 #[rv sb, iv 1, rv a2, iv 1, iv 8, iv 1, iv c1] [.int c1, .int 1, .ref a2]) (fun t k => XS.iload X142.here hx rfl (hb hby d13_28) rfl k) ?_
    refine own_s T142 (mkF m 31 #[rv sb, iv 1, rv a2, iv 1, iv 8, iv 1, iv c1] [.int (c1.toInt8.toInt32), .int 1, .ref a2]) (fun t k => XS.i2b X142.here hx rfl (hb hby d13_30) rfl k) ?_
    obtain ⟨cl147, Ar147, qa147, S147, M147, H147, U147⟩ := id g144
    obtain ⟨T147, h147, X147, e147, W147, st147⟩ := stB X142 hx hZ e142 Ar147 (j := (1 : Int32)) (inb_of S147 ⟨by decide, by decide⟩) (g := (mkF m 31 #[rv sb, iv 1, rv a2, iv 1, iv 8, iv 1, iv c1] [.int (c1.toInt8.toInt32), .int 1, .ref a2])) rfl rfl (hb hby d13_31)
    have g148 := g143.other W147 n_sb_a2
    have g149 : Arv Z h147 a2 kb .byte (8 : Int32) [(.int (nar .byte (c0.toInt8.toInt32))), (.int (nar .byte (c1.toInt8.toInt32))), (.int (0 : Int32)), (.int (0 : Int32)), (.int (0 : Int32)), (.int (0 : Int32)), (.int (0 : Int32)), (.int (0 : Int32))] (.int (0 : Int32)) := Arv.set Ar147 qa147 S147 M147 H147 U147 (fits_nar_byte _) W147 1 rfl (Nat.le_of_ble_eq_true rfl)
    have K150 : Keep h0 h147 [a2] := K145.wr W147 (Or.inl (List.mem_of_getElem? (i := 0) rfl))
    have N147 := Fr.snoc X147 N142 o_a2
    have Z147 : n0 ≤ h147.size := (Nat.le_trans Z142 (Nat.le_of_eq W147.size.symm))
    refine own_s T147 (mkF m 32 #[rv sb, iv 1, rv a2, iv 1, iv 8, iv 1, iv c1] []) st147 ?_
    refine own_s T147 (mkF m 35 #[rv sb, iv 2, rv a2, iv 1, iv 8, iv 1, iv c1] []) (fun t k => XS.iinc X147.here hx rfl (hb hby d13_32) rfl (l' := #[rv sb, iv 2, rv a2, iv 1, iv 8, iv 1, iv c1]) rfl k) ?_
    refine own_s T147 (mkF m 38 #[rv sb, iv 2, rv a2, iv 2, iv 8, iv 1, iv c1] []) (fun t k => XS.iinc X147.here hx rfl (hb hby d13_35) rfl (l' := #[rv sb, iv 2, rv a2, iv 2, iv 8, iv 1, iv c1]) rfl k) ?_
    refine own_s T147 (mkF m 41 #[rv sb, iv 2, rv a2, iv 2, iv 8, iv 2, iv c1] []) (fun t k => XS.iinc X147.here hx rfl (hb hby d13_38) rfl (l' := #[rv sb, iv 2, rv a2, iv 2, iv 8, iv 2, iv c1]) rfl k) ?_
    refine own_s T147 (mkF m 3 #[rv sb, iv 2, rv a2, iv 2, iv 8, iv 2, iv c1] []) (fun t k => XS.goto X147.here hx rfl (pc0 := 41) (pc' := 3) rfl (hb hby d13_41) (by decide) (by decide) k) ?_
    refine own_s T147 (mkF m 5 #[rv sb, iv 2, rv a2, iv 2, iv 8, iv 2, iv c1] [.int 2]) (fun t k => XS.iload X147.here hx rfl (hb hby d13_3) rfl k) ?_
    refine own_s T147 (mkF m 7 #[rv sb, iv 2, rv a2, iv 2, iv 8, iv 2, iv c1] [.int 8, .int 2]) (fun t k => XS.iload X147.here hx rfl (hb hby d13_5) rfl k) ?_
    refine own_s T147 (mkF m 10 #[rv sb, iv 2, rv a2, iv 2, iv 8, iv 2, iv c1] []) (fun t k => XS.icmpNo X147.here hx rfl (hb hby d13_7) rfl (tlt (by decide : ((2 : Int32) < (8 : Int32)))).2.1 k) ?_
    refine own_s T147 (mkF m 11 #[rv sb, iv 2, rv a2, iv 2, iv 8, iv 2, iv c1] [.ref sb]) (fun t k => XS.aloadN X147.here hx rfl (hb hby d13_10) rfl rfl k) ?_
    refine own_s T147 (mkF m 12 #[rv sb, iv 2, rv a2, iv 2, iv 8, iv 2, iv c1] [.int 2, .ref sb]) (fun t k => XS.iloadN X147.here hx rfl (hb hby d13_11) rfl k) ?_
    obtain ⟨cl151, Ar151, qa151, S151, M151, H151, U151⟩ := id g148
    have hi151 := inb_of S151 (j := (2 : Int32)) ⟨by decide, by decide⟩
    have hat151 := H151.at hi151 (v := (.int c2)) rfl
    refine own_s T147 (mkF m 13 #[rv sb, iv 2, rv a2, iv 2, iv 8, iv 2, iv c1] [.int c2]) (fun t k => X147.caload hx (j := (2 : Int32)) (v := (.int c2)) (by rw [e147]; exact Ar151.1) (State.isArrayOf_alike hZ.alike Ar151.2.1) Ar151.2.2 hi151 hat151 (g := (mkF m 12 #[rv sb, iv 2, rv a2, iv 2, iv 8, iv 2, iv c1] [.int 2, .ref sb])) rfl rfl (hb hby d13_12) t k) ?_
    refine own_s T147 (mkF m 15 #[rv sb, iv 2, rv a2, iv 2, iv 8, iv 2, iv c2] []) (fun t k => XS.istore X147.here hx rfl (hb hby d13_13) rfl (l' := #[rv sb, iv 2, rv a2, iv 2, iv 8, iv 2, iv c2]) rfl k) ?_
    refine own_s T147 (mkF m 17 #[rv sb, iv 2, rv a2, iv 2, iv 8, iv 2, iv c2] [.int c2]) (fun t k => XS.iload X147.here hx rfl (hb hby d13_15) rfl k) ?_
    refine own_s T147 (mkF m 20 #[rv sb, iv 2, rv a2, iv 2, iv 8, iv 2, iv c2] [.int 255, .int c2]) (fun t k => XS.sipush X147.here hx rfl (hb hby d13_17) k) ?_
    refine own_s T147 (mkF m 26 #[rv sb, iv 2, rv a2, iv 2, iv 8, iv 2, iv c2] []) (fun t k => XS.icmpYes X147.here hx rfl (pc0 := 20) (pc' := 26) rfl (hb hby d13_20) rfl (flt hc2).2.2.2 (by decide) (by decide) k) ?_
    refine own_s T147 (mkF m 27 #[rv sb, iv 2, rv a2, iv 2, iv 8, iv 2, iv c2] [.ref a2]) (fun t k => XS.aloadN X147.here hx rfl (hb hby d13_26) rfl rfl k) ?_
    refine own_s T147 (mkF m 28 #[rv sb, iv 2, rv a2, iv 2, iv 8, iv 2, iv c2] [.int 2, .ref a2]) (fun t k => XS.iloadN X147.here hx rfl (hb hby d13_27) rfl k) ?_
    refine own_s T147 (mkF m 30 #[rv sb, iv 2, rv a2, iv 2, iv 8, iv 2, iv c2] [.int c2, .int 2, .ref a2]) (fun t k => XS.iload X147.here hx rfl (hb hby d13_28) rfl k) ?_
    refine own_s T147 (mkF m 31 #[rv sb, iv 2, rv a2, iv 2, iv 8, iv 2, iv c2] [.int (c2.toInt8.toInt32), .int 2, .ref a2]) (fun t k => XS.i2b X147.here hx rfl (hb hby d13_30) rfl k) ?_
    obtain ⟨cl152, Ar152, qa152, S152, M152, H152, U152⟩ := id g149
    obtain ⟨T152, h152, X152, e152, W152, st152⟩ := stB X147 hx hZ e147 Ar152 (j := (2 : Int32)) (inb_of S152 ⟨by decide, by decide⟩) (g := (mkF m 31 #[rv sb, iv 2, rv a2, iv 2, iv 8, iv 2, iv c2] [.int (c2.toInt8.toInt32), .int 2, .ref a2])) rfl rfl (hb hby d13_31)
    have g153 := g148.other W152 n_sb_a2
    have g154 : Arv Z h152 a2 kb .byte (8 : Int32) [(.int (nar .byte (c0.toInt8.toInt32))), (.int (nar .byte (c1.toInt8.toInt32))), (.int (nar .byte (c2.toInt8.toInt32))), (.int (0 : Int32)), (.int (0 : Int32)), (.int (0 : Int32)), (.int (0 : Int32)), (.int (0 : Int32))] (.int (0 : Int32)) := Arv.set Ar152 qa152 S152 M152 H152 U152 (fits_nar_byte _) W152 2 rfl (Nat.le_of_ble_eq_true rfl)
    have K155 : Keep h0 h152 [a2] := K150.wr W152 (Or.inl (List.mem_of_getElem? (i := 0) rfl))
    have N152 := Fr.snoc X152 N147 o_a2
    have Z152 : n0 ≤ h152.size := (Nat.le_trans Z147 (Nat.le_of_eq W152.size.symm))
    refine own_s T152 (mkF m 32 #[rv sb, iv 2, rv a2, iv 2, iv 8, iv 2, iv c2] []) st152 ?_
    refine own_s T152 (mkF m 35 #[rv sb, iv 3, rv a2, iv 2, iv 8, iv 2, iv c2] []) (fun t k => XS.iinc X152.here hx rfl (hb hby d13_32) rfl (l' := #[rv sb, iv 3, rv a2, iv 2, iv 8, iv 2, iv c2]) rfl k) ?_
    refine own_s T152 (mkF m 38 #[rv sb, iv 3, rv a2, iv 3, iv 8, iv 2, iv c2] []) (fun t k => XS.iinc X152.here hx rfl (hb hby d13_35) rfl (l' := #[rv sb, iv 3, rv a2, iv 3, iv 8, iv 2, iv c2]) rfl k) ?_
    refine own_s T152 (mkF m 41 #[rv sb, iv 3, rv a2, iv 3, iv 8, iv 3, iv c2] []) (fun t k => XS.iinc X152.here hx rfl (hb hby d13_38) rfl (l' := #[rv sb, iv 3, rv a2, iv 3, iv 8, iv 3, iv c2]) rfl k) ?_
    refine own_s T152 (mkF m 3 #[rv sb, iv 3, rv a2, iv 3, iv 8, iv 3, iv c2] []) (fun t k => XS.goto X152.here hx rfl (pc0 := 41) (pc' := 3) rfl (hb hby d13_41) (by decide) (by decide) k) ?_
    refine own_s T152 (mkF m 5 #[rv sb, iv 3, rv a2, iv 3, iv 8, iv 3, iv c2] [.int 3]) (fun t k => XS.iload X152.here hx rfl (hb hby d13_3) rfl k) ?_
    refine own_s T152 (mkF m 7 #[rv sb, iv 3, rv a2, iv 3, iv 8, iv 3, iv c2] [.int 8, .int 3]) (fun t k => XS.iload X152.here hx rfl (hb hby d13_5) rfl k) ?_
    refine own_s T152 (mkF m 10 #[rv sb, iv 3, rv a2, iv 3, iv 8, iv 3, iv c2] []) (fun t k => XS.icmpNo X152.here hx rfl (hb hby d13_7) rfl (tlt (by decide : ((3 : Int32) < (8 : Int32)))).2.1 k) ?_
    refine own_s T152 (mkF m 11 #[rv sb, iv 3, rv a2, iv 3, iv 8, iv 3, iv c2] [.ref sb]) (fun t k => XS.aloadN X152.here hx rfl (hb hby d13_10) rfl rfl k) ?_
    refine own_s T152 (mkF m 12 #[rv sb, iv 3, rv a2, iv 3, iv 8, iv 3, iv c2] [.int 3, .ref sb]) (fun t k => XS.iloadN X152.here hx rfl (hb hby d13_11) rfl k) ?_
    obtain ⟨cl156, Ar156, qa156, S156, M156, H156, U156⟩ := id g153
    have hi156 := inb_of S156 (j := (3 : Int32)) ⟨by decide, by decide⟩
    have hat156 := H156.at hi156 (v := (.int c3)) rfl
    refine own_s T152 (mkF m 13 #[rv sb, iv 3, rv a2, iv 3, iv 8, iv 3, iv c2] [.int c3]) (fun t k => X152.caload hx (j := (3 : Int32)) (v := (.int c3)) (by rw [e152]; exact Ar156.1) (State.isArrayOf_alike hZ.alike Ar156.2.1) Ar156.2.2 hi156 hat156 (g := (mkF m 12 #[rv sb, iv 3, rv a2, iv 3, iv 8, iv 3, iv c2] [.int 3, .ref sb])) rfl rfl (hb hby d13_12) t k) ?_
    refine own_s T152 (mkF m 15 #[rv sb, iv 3, rv a2, iv 3, iv 8, iv 3, iv c3] []) (fun t k => XS.istore X152.here hx rfl (hb hby d13_13) rfl (l' := #[rv sb, iv 3, rv a2, iv 3, iv 8, iv 3, iv c3]) rfl k) ?_
    refine own_s T152 (mkF m 17 #[rv sb, iv 3, rv a2, iv 3, iv 8, iv 3, iv c3] [.int c3]) (fun t k => XS.iload X152.here hx rfl (hb hby d13_15) rfl k) ?_
    refine own_s T152 (mkF m 20 #[rv sb, iv 3, rv a2, iv 3, iv 8, iv 3, iv c3] [.int 255, .int c3]) (fun t k => XS.sipush X152.here hx rfl (hb hby d13_17) k) ?_
    refine own_s T152 (mkF m 26 #[rv sb, iv 3, rv a2, iv 3, iv 8, iv 3, iv c3] []) (fun t k => XS.icmpYes X152.here hx rfl (pc0 := 20) (pc' := 26) rfl (hb hby d13_20) rfl (flt hc3).2.2.2 (by decide) (by decide) k) ?_
    refine own_s T152 (mkF m 27 #[rv sb, iv 3, rv a2, iv 3, iv 8, iv 3, iv c3] [.ref a2]) (fun t k => XS.aloadN X152.here hx rfl (hb hby d13_26) rfl rfl k) ?_
    refine own_s T152 (mkF m 28 #[rv sb, iv 3, rv a2, iv 3, iv 8, iv 3, iv c3] [.int 3, .ref a2]) (fun t k => XS.iloadN X152.here hx rfl (hb hby d13_27) rfl k) ?_
    refine own_s T152 (mkF m 30 #[rv sb, iv 3, rv a2, iv 3, iv 8, iv 3, iv c3] [.int c3, .int 3, .ref a2]) (fun t k => XS.iload X152.here hx rfl (hb hby d13_28) rfl k) ?_
    refine own_s T152 (mkF m 31 #[rv sb, iv 3, rv a2, iv 3, iv 8, iv 3, iv c3] [.int (c3.toInt8.toInt32), .int 3, .ref a2]) (fun t k => XS.i2b X152.here hx rfl (hb hby d13_30) rfl k) ?_
    obtain ⟨cl157, Ar157, qa157, S157, M157, H157, U157⟩ := id g154
    obtain ⟨T157, h157, X157, e157, W157, st157⟩ := stB X152 hx hZ e152 Ar157 (j := (3 : Int32)) (inb_of S157 ⟨by decide, by decide⟩) (g := (mkF m 31 #[rv sb, iv 3, rv a2, iv 3, iv 8, iv 3, iv c3] [.int (c3.toInt8.toInt32), .int 3, .ref a2])) rfl rfl (hb hby d13_31)
    have g158 := g153.other W157 n_sb_a2
    have g159 : Arv Z h157 a2 kb .byte (8 : Int32) [(.int (nar .byte (c0.toInt8.toInt32))), (.int (nar .byte (c1.toInt8.toInt32))), (.int (nar .byte (c2.toInt8.toInt32))), (.int (nar .byte (c3.toInt8.toInt32))), (.int (0 : Int32)), (.int (0 : Int32)), (.int (0 : Int32)), (.int (0 : Int32))] (.int (0 : Int32)) := Arv.set Ar157 qa157 S157 M157 H157 U157 (fits_nar_byte _) W157 3 rfl (Nat.le_of_ble_eq_true rfl)
    have K160 : Keep h0 h157 [a2] := K155.wr W157 (Or.inl (List.mem_of_getElem? (i := 0) rfl))
    have N157 := Fr.snoc X157 N152 o_a2
    have Z157 : n0 ≤ h157.size := (Nat.le_trans Z152 (Nat.le_of_eq W157.size.symm))
    refine own_s T157 (mkF m 32 #[rv sb, iv 3, rv a2, iv 3, iv 8, iv 3, iv c3] []) st157 ?_
    refine own_s T157 (mkF m 35 #[rv sb, iv 4, rv a2, iv 3, iv 8, iv 3, iv c3] []) (fun t k => XS.iinc X157.here hx rfl (hb hby d13_32) rfl (l' := #[rv sb, iv 4, rv a2, iv 3, iv 8, iv 3, iv c3]) rfl k) ?_
    refine own_s T157 (mkF m 38 #[rv sb, iv 4, rv a2, iv 4, iv 8, iv 3, iv c3] []) (fun t k => XS.iinc X157.here hx rfl (hb hby d13_35) rfl (l' := #[rv sb, iv 4, rv a2, iv 4, iv 8, iv 3, iv c3]) rfl k) ?_
    refine own_s T157 (mkF m 41 #[rv sb, iv 4, rv a2, iv 4, iv 8, iv 4, iv c3] []) (fun t k => XS.iinc X157.here hx rfl (hb hby d13_38) rfl (l' := #[rv sb, iv 4, rv a2, iv 4, iv 8, iv 4, iv c3]) rfl k) ?_
    refine own_s T157 (mkF m 3 #[rv sb, iv 4, rv a2, iv 4, iv 8, iv 4, iv c3] []) (fun t k => XS.goto X157.here hx rfl (pc0 := 41) (pc' := 3) rfl (hb hby d13_41) (by decide) (by decide) k) ?_
    refine own_s T157 (mkF m 5 #[rv sb, iv 4, rv a2, iv 4, iv 8, iv 4, iv c3] [.int 4]) (fun t k => XS.iload X157.here hx rfl (hb hby d13_3) rfl k) ?_
    refine own_s T157 (mkF m 7 #[rv sb, iv 4, rv a2, iv 4, iv 8, iv 4, iv c3] [.int 8, .int 4]) (fun t k => XS.iload X157.here hx rfl (hb hby d13_5) rfl k) ?_
    refine own_s T157 (mkF m 10 #[rv sb, iv 4, rv a2, iv 4, iv 8, iv 4, iv c3] []) (fun t k => XS.icmpNo X157.here hx rfl (hb hby d13_7) rfl (tlt (by decide : ((4 : Int32) < (8 : Int32)))).2.1 k) ?_
    refine own_s T157 (mkF m 11 #[rv sb, iv 4, rv a2, iv 4, iv 8, iv 4, iv c3] [.ref sb]) (fun t k => XS.aloadN X157.here hx rfl (hb hby d13_10) rfl rfl k) ?_
    refine own_s T157 (mkF m 12 #[rv sb, iv 4, rv a2, iv 4, iv 8, iv 4, iv c3] [.int 4, .ref sb]) (fun t k => XS.iloadN X157.here hx rfl (hb hby d13_11) rfl k) ?_
    obtain ⟨cl161, Ar161, qa161, S161, M161, H161, U161⟩ := id g158
    have hi161 := inb_of S161 (j := (4 : Int32)) ⟨by decide, by decide⟩
    have hat161 := H161.at hi161 (v := (.int c4)) rfl
    refine own_s T157 (mkF m 13 #[rv sb, iv 4, rv a2, iv 4, iv 8, iv 4, iv c3] [.int c4]) (fun t k => X157.caload hx (j := (4 : Int32)) (v := (.int c4)) (by rw [e157]; exact Ar161.1) (State.isArrayOf_alike hZ.alike Ar161.2.1) Ar161.2.2 hi161 hat161 (g := (mkF m 12 #[rv sb, iv 4, rv a2, iv 4, iv 8, iv 4, iv c3] [.int 4, .ref sb])) rfl rfl (hb hby d13_12) t k) ?_
    refine own_s T157 (mkF m 15 #[rv sb, iv 4, rv a2, iv 4, iv 8, iv 4, iv c4] []) (fun t k => XS.istore X157.here hx rfl (hb hby d13_13) rfl (l' := #[rv sb, iv 4, rv a2, iv 4, iv 8, iv 4, iv c4]) rfl k) ?_
    refine own_s T157 (mkF m 17 #[rv sb, iv 4, rv a2, iv 4, iv 8, iv 4, iv c4] [.int c4]) (fun t k => XS.iload X157.here hx rfl (hb hby d13_15) rfl k) ?_
    refine own_s T157 (mkF m 20 #[rv sb, iv 4, rv a2, iv 4, iv 8, iv 4, iv c4] [.int 255, .int c4]) (fun t k => XS.sipush X157.here hx rfl (hb hby d13_17) k) ?_
    refine own_s T157 (mkF m 26 #[rv sb, iv 4, rv a2, iv 4, iv 8, iv 4, iv c4] []) (fun t k => XS.icmpYes X157.here hx rfl (pc0 := 20) (pc' := 26) rfl (hb hby d13_20) rfl (flt hc4).2.2.2 (by decide) (by decide) k) ?_
    refine own_s T157 (mkF m 27 #[rv sb, iv 4, rv a2, iv 4, iv 8, iv 4, iv c4] [.ref a2]) (fun t k => XS.aloadN X157.here hx rfl (hb hby d13_26) rfl rfl k) ?_
    refine own_s T157 (mkF m 28 #[rv sb, iv 4, rv a2, iv 4, iv 8, iv 4, iv c4] [.int 4, .ref a2]) (fun t k => XS.iloadN X157.here hx rfl (hb hby d13_27) rfl k) ?_
    refine own_s T157 (mkF m 30 #[rv sb, iv 4, rv a2, iv 4, iv 8, iv 4, iv c4] [.int c4, .int 4, .ref a2]) (fun t k => XS.iload X157.here hx rfl (hb hby d13_28) rfl k) ?_
    refine own_s T157 (mkF m 31 #[rv sb, iv 4, rv a2, iv 4, iv 8, iv 4, iv c4] [.int (c4.toInt8.toInt32), .int 4, .ref a2]) (fun t k => XS.i2b X157.here hx rfl (hb hby d13_30) rfl k) ?_
    obtain ⟨cl162, Ar162, qa162, S162, M162, H162, U162⟩ := id g159
    obtain ⟨T162, h162, X162, e162, W162, st162⟩ := stB X157 hx hZ e157 Ar162 (j := (4 : Int32)) (inb_of S162 ⟨by decide, by decide⟩) (g := (mkF m 31 #[rv sb, iv 4, rv a2, iv 4, iv 8, iv 4, iv c4] [.int (c4.toInt8.toInt32), .int 4, .ref a2])) rfl rfl (hb hby d13_31)
    have g163 := g158.other W162 n_sb_a2
    have g164 : Arv Z h162 a2 kb .byte (8 : Int32) [(.int (nar .byte (c0.toInt8.toInt32))), (.int (nar .byte (c1.toInt8.toInt32))), (.int (nar .byte (c2.toInt8.toInt32))), (.int (nar .byte (c3.toInt8.toInt32))), (.int (nar .byte (c4.toInt8.toInt32))), (.int (0 : Int32)), (.int (0 : Int32)), (.int (0 : Int32))] (.int (0 : Int32)) := Arv.set Ar162 qa162 S162 M162 H162 U162 (fits_nar_byte _) W162 4 rfl (Nat.le_of_ble_eq_true rfl)
    have K165 : Keep h0 h162 [a2] := K160.wr W162 (Or.inl (List.mem_of_getElem? (i := 0) rfl))
    have N162 := Fr.snoc X162 N157 o_a2
    have Z162 : n0 ≤ h162.size := (Nat.le_trans Z157 (Nat.le_of_eq W162.size.symm))
    refine own_s T162 (mkF m 32 #[rv sb, iv 4, rv a2, iv 4, iv 8, iv 4, iv c4] []) st162 ?_
    refine own_s T162 (mkF m 35 #[rv sb, iv 5, rv a2, iv 4, iv 8, iv 4, iv c4] []) (fun t k => XS.iinc X162.here hx rfl (hb hby d13_32) rfl (l' := #[rv sb, iv 5, rv a2, iv 4, iv 8, iv 4, iv c4]) rfl k) ?_
    refine own_s T162 (mkF m 38 #[rv sb, iv 5, rv a2, iv 5, iv 8, iv 4, iv c4] []) (fun t k => XS.iinc X162.here hx rfl (hb hby d13_35) rfl (l' := #[rv sb, iv 5, rv a2, iv 5, iv 8, iv 4, iv c4]) rfl k) ?_
    refine own_s T162 (mkF m 41 #[rv sb, iv 5, rv a2, iv 5, iv 8, iv 5, iv c4] []) (fun t k => XS.iinc X162.here hx rfl (hb hby d13_38) rfl (l' := #[rv sb, iv 5, rv a2, iv 5, iv 8, iv 5, iv c4]) rfl k) ?_
    refine own_s T162 (mkF m 3 #[rv sb, iv 5, rv a2, iv 5, iv 8, iv 5, iv c4] []) (fun t k => XS.goto X162.here hx rfl (pc0 := 41) (pc' := 3) rfl (hb hby d13_41) (by decide) (by decide) k) ?_
    refine own_s T162 (mkF m 5 #[rv sb, iv 5, rv a2, iv 5, iv 8, iv 5, iv c4] [.int 5]) (fun t k => XS.iload X162.here hx rfl (hb hby d13_3) rfl k) ?_
    refine own_s T162 (mkF m 7 #[rv sb, iv 5, rv a2, iv 5, iv 8, iv 5, iv c4] [.int 8, .int 5]) (fun t k => XS.iload X162.here hx rfl (hb hby d13_5) rfl k) ?_
    refine own_s T162 (mkF m 10 #[rv sb, iv 5, rv a2, iv 5, iv 8, iv 5, iv c4] []) (fun t k => XS.icmpNo X162.here hx rfl (hb hby d13_7) rfl (tlt (by decide : ((5 : Int32) < (8 : Int32)))).2.1 k) ?_
    refine own_s T162 (mkF m 11 #[rv sb, iv 5, rv a2, iv 5, iv 8, iv 5, iv c4] [.ref sb]) (fun t k => XS.aloadN X162.here hx rfl (hb hby d13_10) rfl rfl k) ?_
    refine own_s T162 (mkF m 12 #[rv sb, iv 5, rv a2, iv 5, iv 8, iv 5, iv c4] [.int 5, .ref sb]) (fun t k => XS.iloadN X162.here hx rfl (hb hby d13_11) rfl k) ?_
    obtain ⟨cl166, Ar166, qa166, S166, M166, H166, U166⟩ := id g163
    have hi166 := inb_of S166 (j := (5 : Int32)) ⟨by decide, by decide⟩
    have hat166 := H166.at hi166 (v := (.int c5)) rfl
    refine own_s T162 (mkF m 13 #[rv sb, iv 5, rv a2, iv 5, iv 8, iv 5, iv c4] [.int c5]) (fun t k => X162.caload hx (j := (5 : Int32)) (v := (.int c5)) (by rw [e162]; exact Ar166.1) (State.isArrayOf_alike hZ.alike Ar166.2.1) Ar166.2.2 hi166 hat166 (g := (mkF m 12 #[rv sb, iv 5, rv a2, iv 5, iv 8, iv 5, iv c4] [.int 5, .ref sb])) rfl rfl (hb hby d13_12) t k) ?_
    refine own_s T162 (mkF m 15 #[rv sb, iv 5, rv a2, iv 5, iv 8, iv 5, iv c5] []) (fun t k => XS.istore X162.here hx rfl (hb hby d13_13) rfl (l' := #[rv sb, iv 5, rv a2, iv 5, iv 8, iv 5, iv c5]) rfl k) ?_
    refine own_s T162 (mkF m 17 #[rv sb, iv 5, rv a2, iv 5, iv 8, iv 5, iv c5] [.int c5]) (fun t k => XS.iload X162.here hx rfl (hb hby d13_15) rfl k) ?_
    refine own_s T162 (mkF m 20 #[rv sb, iv 5, rv a2, iv 5, iv 8, iv 5, iv c5] [.int 255, .int c5]) (fun t k => XS.sipush X162.here hx rfl (hb hby d13_17) k) ?_
    refine own_s T162 (mkF m 26 #[rv sb, iv 5, rv a2, iv 5, iv 8, iv 5, iv c5] []) (fun t k => XS.icmpYes X162.here hx rfl (pc0 := 20) (pc' := 26) rfl (hb hby d13_20) rfl (flt hc5).2.2.2 (by decide) (by decide) k) ?_
    refine own_s T162 (mkF m 27 #[rv sb, iv 5, rv a2, iv 5, iv 8, iv 5, iv c5] [.ref a2]) (fun t k => XS.aloadN X162.here hx rfl (hb hby d13_26) rfl rfl k) ?_
    refine own_s T162 (mkF m 28 #[rv sb, iv 5, rv a2, iv 5, iv 8, iv 5, iv c5] [.int 5, .ref a2]) (fun t k => XS.iloadN X162.here hx rfl (hb hby d13_27) rfl k) ?_
    refine own_s T162 (mkF m 30 #[rv sb, iv 5, rv a2, iv 5, iv 8, iv 5, iv c5] [.int c5, .int 5, .ref a2]) (fun t k => XS.iload X162.here hx rfl (hb hby d13_28) rfl k) ?_
    refine own_s T162 (mkF m 31 #[rv sb, iv 5, rv a2, iv 5, iv 8, iv 5, iv c5] [.int (c5.toInt8.toInt32), .int 5, .ref a2]) (fun t k => XS.i2b X162.here hx rfl (hb hby d13_30) rfl k) ?_
    obtain ⟨cl167, Ar167, qa167, S167, M167, H167, U167⟩ := id g164
    obtain ⟨T167, h167, X167, e167, W167, st167⟩ := stB X162 hx hZ e162 Ar167 (j := (5 : Int32)) (inb_of S167 ⟨by decide, by decide⟩) (g := (mkF m 31 #[rv sb, iv 5, rv a2, iv 5, iv 8, iv 5, iv c5] [.int (c5.toInt8.toInt32), .int 5, .ref a2])) rfl rfl (hb hby d13_31)
    have g168 := g163.other W167 n_sb_a2
    have g169 : Arv Z h167 a2 kb .byte (8 : Int32) [(.int (nar .byte (c0.toInt8.toInt32))), (.int (nar .byte (c1.toInt8.toInt32))), (.int (nar .byte (c2.toInt8.toInt32))), (.int (nar .byte (c3.toInt8.toInt32))), (.int (nar .byte (c4.toInt8.toInt32))), (.int (nar .byte (c5.toInt8.toInt32))), (.int (0 : Int32)), (.int (0 : Int32))] (.int (0 : Int32)) := Arv.set Ar167 qa167 S167 M167 H167 U167 (fits_nar_byte _) W167 5 rfl (Nat.le_of_ble_eq_true rfl)
    have K170 : Keep h0 h167 [a2] := K165.wr W167 (Or.inl (List.mem_of_getElem? (i := 0) rfl))
    have N167 := Fr.snoc X167 N162 o_a2
    have Z167 : n0 ≤ h167.size := (Nat.le_trans Z162 (Nat.le_of_eq W167.size.symm))
    refine own_s T167 (mkF m 32 #[rv sb, iv 5, rv a2, iv 5, iv 8, iv 5, iv c5] []) st167 ?_
    refine own_s T167 (mkF m 35 #[rv sb, iv 6, rv a2, iv 5, iv 8, iv 5, iv c5] []) (fun t k => XS.iinc X167.here hx rfl (hb hby d13_32) rfl (l' := #[rv sb, iv 6, rv a2, iv 5, iv 8, iv 5, iv c5]) rfl k) ?_
    refine own_s T167 (mkF m 38 #[rv sb, iv 6, rv a2, iv 6, iv 8, iv 5, iv c5] []) (fun t k => XS.iinc X167.here hx rfl (hb hby d13_35) rfl (l' := #[rv sb, iv 6, rv a2, iv 6, iv 8, iv 5, iv c5]) rfl k) ?_
    refine own_s T167 (mkF m 41 #[rv sb, iv 6, rv a2, iv 6, iv 8, iv 6, iv c5] []) (fun t k => XS.iinc X167.here hx rfl (hb hby d13_38) rfl (l' := #[rv sb, iv 6, rv a2, iv 6, iv 8, iv 6, iv c5]) rfl k) ?_
    refine own_s T167 (mkF m 3 #[rv sb, iv 6, rv a2, iv 6, iv 8, iv 6, iv c5] []) (fun t k => XS.goto X167.here hx rfl (pc0 := 41) (pc' := 3) rfl (hb hby d13_41) (by decide) (by decide) k) ?_
    refine own_s T167 (mkF m 5 #[rv sb, iv 6, rv a2, iv 6, iv 8, iv 6, iv c5] [.int 6]) (fun t k => XS.iload X167.here hx rfl (hb hby d13_3) rfl k) ?_
    refine own_s T167 (mkF m 7 #[rv sb, iv 6, rv a2, iv 6, iv 8, iv 6, iv c5] [.int 8, .int 6]) (fun t k => XS.iload X167.here hx rfl (hb hby d13_5) rfl k) ?_
    refine own_s T167 (mkF m 10 #[rv sb, iv 6, rv a2, iv 6, iv 8, iv 6, iv c5] []) (fun t k => XS.icmpNo X167.here hx rfl (hb hby d13_7) rfl (tlt (by decide : ((6 : Int32) < (8 : Int32)))).2.1 k) ?_
    refine own_s T167 (mkF m 11 #[rv sb, iv 6, rv a2, iv 6, iv 8, iv 6, iv c5] [.ref sb]) (fun t k => XS.aloadN X167.here hx rfl (hb hby d13_10) rfl rfl k) ?_
    refine own_s T167 (mkF m 12 #[rv sb, iv 6, rv a2, iv 6, iv 8, iv 6, iv c5] [.int 6, .ref sb]) (fun t k => XS.iloadN X167.here hx rfl (hb hby d13_11) rfl k) ?_
    obtain ⟨cl171, Ar171, qa171, S171, M171, H171, U171⟩ := id g168
    have hi171 := inb_of S171 (j := (6 : Int32)) ⟨by decide, by decide⟩
    have hat171 := H171.at hi171 (v := (.int c6)) rfl
    refine own_s T167 (mkF m 13 #[rv sb, iv 6, rv a2, iv 6, iv 8, iv 6, iv c5] [.int c6]) (fun t k => X167.caload hx (j := (6 : Int32)) (v := (.int c6)) (by rw [e167]; exact Ar171.1) (State.isArrayOf_alike hZ.alike Ar171.2.1) Ar171.2.2 hi171 hat171 (g := (mkF m 12 #[rv sb, iv 6, rv a2, iv 6, iv 8, iv 6, iv c5] [.int 6, .ref sb])) rfl rfl (hb hby d13_12) t k) ?_
    refine own_s T167 (mkF m 15 #[rv sb, iv 6, rv a2, iv 6, iv 8, iv 6, iv c6] []) (fun t k => XS.istore X167.here hx rfl (hb hby d13_13) rfl (l' := #[rv sb, iv 6, rv a2, iv 6, iv 8, iv 6, iv c6]) rfl k) ?_
    refine own_s T167 (mkF m 17 #[rv sb, iv 6, rv a2, iv 6, iv 8, iv 6, iv c6] [.int c6]) (fun t k => XS.iload X167.here hx rfl (hb hby d13_15) rfl k) ?_
    refine own_s T167 (mkF m 20 #[rv sb, iv 6, rv a2, iv 6, iv 8, iv 6, iv c6] [.int 255, .int c6]) (fun t k => XS.sipush X167.here hx rfl (hb hby d13_17) k) ?_
    refine own_s T167 (mkF m 26 #[rv sb, iv 6, rv a2, iv 6, iv 8, iv 6, iv c6] []) (fun t k => XS.icmpYes X167.here hx rfl (pc0 := 20) (pc' := 26) rfl (hb hby d13_20) rfl (flt hc6).2.2.2 (by decide) (by decide) k) ?_
    refine own_s T167 (mkF m 27 #[rv sb, iv 6, rv a2, iv 6, iv 8, iv 6, iv c6] [.ref a2]) (fun t k => XS.aloadN X167.here hx rfl (hb hby d13_26) rfl rfl k) ?_
    refine own_s T167 (mkF m 28 #[rv sb, iv 6, rv a2, iv 6, iv 8, iv 6, iv c6] [.int 6, .ref a2]) (fun t k => XS.iloadN X167.here hx rfl (hb hby d13_27) rfl k) ?_
    refine own_s T167 (mkF m 30 #[rv sb, iv 6, rv a2, iv 6, iv 8, iv 6, iv c6] [.int c6, .int 6, .ref a2]) (fun t k => XS.iload X167.here hx rfl (hb hby d13_28) rfl k) ?_
    refine own_s T167 (mkF m 31 #[rv sb, iv 6, rv a2, iv 6, iv 8, iv 6, iv c6] [.int (c6.toInt8.toInt32), .int 6, .ref a2]) (fun t k => XS.i2b X167.here hx rfl (hb hby d13_30) rfl k) ?_
    obtain ⟨cl172, Ar172, qa172, S172, M172, H172, U172⟩ := id g169
    obtain ⟨T172, h172, X172, e172, W172, st172⟩ := stB X167 hx hZ e167 Ar172 (j := (6 : Int32)) (inb_of S172 ⟨by decide, by decide⟩) (g := (mkF m 31 #[rv sb, iv 6, rv a2, iv 6, iv 8, iv 6, iv c6] [.int (c6.toInt8.toInt32), .int 6, .ref a2])) rfl rfl (hb hby d13_31)
    have g173 := g168.other W172 n_sb_a2
    have g174 : Arv Z h172 a2 kb .byte (8 : Int32) [(.int (nar .byte (c0.toInt8.toInt32))), (.int (nar .byte (c1.toInt8.toInt32))), (.int (nar .byte (c2.toInt8.toInt32))), (.int (nar .byte (c3.toInt8.toInt32))), (.int (nar .byte (c4.toInt8.toInt32))), (.int (nar .byte (c5.toInt8.toInt32))), (.int (nar .byte (c6.toInt8.toInt32))), (.int (0 : Int32))] (.int (0 : Int32)) := Arv.set Ar172 qa172 S172 M172 H172 U172 (fits_nar_byte _) W172 6 rfl (Nat.le_of_ble_eq_true rfl)
    have K175 : Keep h0 h172 [a2] := K170.wr W172 (Or.inl (List.mem_of_getElem? (i := 0) rfl))
    have N172 := Fr.snoc X172 N167 o_a2
    have Z172 : n0 ≤ h172.size := (Nat.le_trans Z167 (Nat.le_of_eq W172.size.symm))
    refine own_s T172 (mkF m 32 #[rv sb, iv 6, rv a2, iv 6, iv 8, iv 6, iv c6] []) st172 ?_
    refine own_s T172 (mkF m 35 #[rv sb, iv 7, rv a2, iv 6, iv 8, iv 6, iv c6] []) (fun t k => XS.iinc X172.here hx rfl (hb hby d13_32) rfl (l' := #[rv sb, iv 7, rv a2, iv 6, iv 8, iv 6, iv c6]) rfl k) ?_
    refine own_s T172 (mkF m 38 #[rv sb, iv 7, rv a2, iv 7, iv 8, iv 6, iv c6] []) (fun t k => XS.iinc X172.here hx rfl (hb hby d13_35) rfl (l' := #[rv sb, iv 7, rv a2, iv 7, iv 8, iv 6, iv c6]) rfl k) ?_
    refine own_s T172 (mkF m 41 #[rv sb, iv 7, rv a2, iv 7, iv 8, iv 7, iv c6] []) (fun t k => XS.iinc X172.here hx rfl (hb hby d13_38) rfl (l' := #[rv sb, iv 7, rv a2, iv 7, iv 8, iv 7, iv c6]) rfl k) ?_
    refine own_s T172 (mkF m 3 #[rv sb, iv 7, rv a2, iv 7, iv 8, iv 7, iv c6] []) (fun t k => XS.goto X172.here hx rfl (pc0 := 41) (pc' := 3) rfl (hb hby d13_41) (by decide) (by decide) k) ?_
    refine own_s T172 (mkF m 5 #[rv sb, iv 7, rv a2, iv 7, iv 8, iv 7, iv c6] [.int 7]) (fun t k => XS.iload X172.here hx rfl (hb hby d13_3) rfl k) ?_
    refine own_s T172 (mkF m 7 #[rv sb, iv 7, rv a2, iv 7, iv 8, iv 7, iv c6] [.int 8, .int 7]) (fun t k => XS.iload X172.here hx rfl (hb hby d13_5) rfl k) ?_
    refine own_s T172 (mkF m 10 #[rv sb, iv 7, rv a2, iv 7, iv 8, iv 7, iv c6] []) (fun t k => XS.icmpNo X172.here hx rfl (hb hby d13_7) rfl (tlt (by decide : ((7 : Int32) < (8 : Int32)))).2.1 k) ?_
    refine own_s T172 (mkF m 11 #[rv sb, iv 7, rv a2, iv 7, iv 8, iv 7, iv c6] [.ref sb]) (fun t k => XS.aloadN X172.here hx rfl (hb hby d13_10) rfl rfl k) ?_
    refine own_s T172 (mkF m 12 #[rv sb, iv 7, rv a2, iv 7, iv 8, iv 7, iv c6] [.int 7, .ref sb]) (fun t k => XS.iloadN X172.here hx rfl (hb hby d13_11) rfl k) ?_
    obtain ⟨cl176, Ar176, qa176, S176, M176, H176, U176⟩ := id g173
    have hi176 := inb_of S176 (j := (7 : Int32)) ⟨by decide, by decide⟩
    have hat176 := H176.at hi176 (v := (.int c7)) rfl
    refine own_s T172 (mkF m 13 #[rv sb, iv 7, rv a2, iv 7, iv 8, iv 7, iv c6] [.int c7]) (fun t k => X172.caload hx (j := (7 : Int32)) (v := (.int c7)) (by rw [e172]; exact Ar176.1) (State.isArrayOf_alike hZ.alike Ar176.2.1) Ar176.2.2 hi176 hat176 (g := (mkF m 12 #[rv sb, iv 7, rv a2, iv 7, iv 8, iv 7, iv c6] [.int 7, .ref sb])) rfl rfl (hb hby d13_12) t k) ?_
    refine own_s T172 (mkF m 15 #[rv sb, iv 7, rv a2, iv 7, iv 8, iv 7, iv c7] []) (fun t k => XS.istore X172.here hx rfl (hb hby d13_13) rfl (l' := #[rv sb, iv 7, rv a2, iv 7, iv 8, iv 7, iv c7]) rfl k) ?_
    refine own_s T172 (mkF m 17 #[rv sb, iv 7, rv a2, iv 7, iv 8, iv 7, iv c7] [.int c7]) (fun t k => XS.iload X172.here hx rfl (hb hby d13_15) rfl k) ?_
    refine own_s T172 (mkF m 20 #[rv sb, iv 7, rv a2, iv 7, iv 8, iv 7, iv c7] [.int 255, .int c7]) (fun t k => XS.sipush X172.here hx rfl (hb hby d13_17) k) ?_
    refine own_s T172 (mkF m 26 #[rv sb, iv 7, rv a2, iv 7, iv 8, iv 7, iv c7] []) (fun t k => XS.icmpYes X172.here hx rfl (pc0 := 20) (pc' := 26) rfl (hb hby d13_20) rfl (flt hc7).2.2.2 (by decide) (by decide) k) ?_
    refine own_s T172 (mkF m 27 #[rv sb, iv 7, rv a2, iv 7, iv 8, iv 7, iv c7] [.ref a2]) (fun t k => XS.aloadN X172.here hx rfl (hb hby d13_26) rfl rfl k) ?_
    refine own_s T172 (mkF m 28 #[rv sb, iv 7, rv a2, iv 7, iv 8, iv 7, iv c7] [.int 7, .ref a2]) (fun t k => XS.iloadN X172.here hx rfl (hb hby d13_27) rfl k) ?_
    refine own_s T172 (mkF m 30 #[rv sb, iv 7, rv a2, iv 7, iv 8, iv 7, iv c7] [.int c7, .int 7, .ref a2]) (fun t k => XS.iload X172.here hx rfl (hb hby d13_28) rfl k) ?_
    refine own_s T172 (mkF m 31 #[rv sb, iv 7, rv a2, iv 7, iv 8, iv 7, iv c7] [.int (c7.toInt8.toInt32), .int 7, .ref a2]) (fun t k => XS.i2b X172.here hx rfl (hb hby d13_30) rfl k) ?_
    obtain ⟨cl177, Ar177, qa177, S177, M177, H177, U177⟩ := id g174
    obtain ⟨T177, h177, X177, e177, W177, st177⟩ := stB X172 hx hZ e172 Ar177 (j := (7 : Int32)) (inb_of S177 ⟨by decide, by decide⟩) (g := (mkF m 31 #[rv sb, iv 7, rv a2, iv 7, iv 8, iv 7, iv c7] [.int (c7.toInt8.toInt32), .int 7, .ref a2])) rfl rfl (hb hby d13_31)
    have g178 := g173.other W177 n_sb_a2
    have g179 : Arv Z h177 a2 kb .byte (8 : Int32) [(.int (nar .byte (c0.toInt8.toInt32))), (.int (nar .byte (c1.toInt8.toInt32))), (.int (nar .byte (c2.toInt8.toInt32))), (.int (nar .byte (c3.toInt8.toInt32))), (.int (nar .byte (c4.toInt8.toInt32))), (.int (nar .byte (c5.toInt8.toInt32))), (.int (nar .byte (c6.toInt8.toInt32))), (.int (nar .byte (c7.toInt8.toInt32)))] (.int (0 : Int32)) := Arv.set Ar177 qa177 S177 M177 H177 U177 (fits_nar_byte _) W177 7 rfl (Nat.le_of_ble_eq_true rfl)
    have K180 : Keep h0 h177 [a2] := K175.wr W177 (Or.inl (List.mem_of_getElem? (i := 0) rfl))
    have N177 := Fr.snoc X177 N172 o_a2
    have Z177 : n0 ≤ h177.size := (Nat.le_trans Z172 (Nat.le_of_eq W177.size.symm))
    refine own_s T177 (mkF m 32 #[rv sb, iv 7, rv a2, iv 7, iv 8, iv 7, iv c7] []) st177 ?_
    refine own_s T177 (mkF m 35 #[rv sb, iv 8, rv a2, iv 7, iv 8, iv 7, iv c7] []) (fun t k => XS.iinc X177.here hx rfl (hb hby d13_32) rfl (l' := #[rv sb, iv 8, rv a2, iv 7, iv 8, iv 7, iv c7]) rfl k) ?_
    refine own_s T177 (mkF m 38 #[rv sb, iv 8, rv a2, iv 8, iv 8, iv 7, iv c7] []) (fun t k => XS.iinc X177.here hx rfl (hb hby d13_35) rfl (l' := #[rv sb, iv 8, rv a2, iv 8, iv 8, iv 7, iv c7]) rfl k) ?_
    refine own_s T177 (mkF m 41 #[rv sb, iv 8, rv a2, iv 8, iv 8, iv 8, iv c7] []) (fun t k => XS.iinc X177.here hx rfl (hb hby d13_38) rfl (l' := #[rv sb, iv 8, rv a2, iv 8, iv 8, iv 8, iv c7]) rfl k) ?_
    refine own_s T177 (mkF m 3 #[rv sb, iv 8, rv a2, iv 8, iv 8, iv 8, iv c7] []) (fun t k => XS.goto X177.here hx rfl (pc0 := 41) (pc' := 3) rfl (hb hby d13_41) (by decide) (by decide) k) ?_
    refine own_s T177 (mkF m 5 #[rv sb, iv 8, rv a2, iv 8, iv 8, iv 8, iv c7] [.int 8]) (fun t k => XS.iload X177.here hx rfl (hb hby d13_3) rfl k) ?_
    refine own_s T177 (mkF m 7 #[rv sb, iv 8, rv a2, iv 8, iv 8, iv 8, iv c7] [.int 8, .int 8]) (fun t k => XS.iload X177.here hx rfl (hb hby d13_5) rfl k) ?_
    refine own_s T177 (mkF m 44 #[rv sb, iv 8, rv a2, iv 8, iv 8, iv 8, iv c7] []) (fun t k => XS.icmpYes X177.here hx rfl (pc0 := 7) (pc' := 44) rfl (hb hby d13_7) rfl (flt (by decide : ¬ ((8 : Int32) < (8 : Int32)))).2.1 (by decide) (by decide) k) ?_
    refine own_s T177 (mkF m 46 #[rv sb, iv 8, rv a2, iv 8, iv 8, iv 8, iv c7] [.int 8]) (fun t k => XS.iload X177.here hx rfl (hb hby d13_44) rfl k) ?_
    refine own_rI X177 hx hlk Bd.returns (hb hby d13_46) ?_ (by decide) (by decide)
    rw [e177]
    exact ⟨[(.int (nar .byte (c0.toInt8.toInt32))), (.int (nar .byte (c1.toInt8.toInt32))), (.int (nar .byte (c2.toInt8.toInt32))), (.int (nar .byte (c3.toInt8.toInt32))), (.int (nar .byte (c4.toInt8.toInt32))), (.int (nar .byte (c5.toInt8.toInt32))), (.int (nar .byte (c6.toInt8.toInt32))), (.int (nar .byte (c7.toInt8.toInt32)))], rfl, N177, K180, g179, (Or.inr (Or.inr (Or.inr (Or.inr (Or.inr (Or.inr (Or.inr (Or.inr ⟨_, _, _, _, _, _, _, _, rfl, rfl⟩))))))))⟩
def Q_cp3 (Z : State) (sb : Addr) (sk : ClassId) (zn : Int32) (vl : List Value) (h0 : Heap) (n0 : Nat) (v : Option Value) (h : Heap) (L : List Loc) : Prop := ∃ (b : Addr) (kb : ClassId) (wl : List Value), v = some (.ref b) ∧ Fr n0 L ∧ Keep h0 h [] ∧ h0.size ≤ b ∧ Arv Z h b kb .byte zn wl (.int (0 : Int32)) ∧ own_form zn wl
theorem ef_rm_cp3 (m : MethodId) (x0 : Addr) (x1 : Int32) (x2 : Int32) : entryFrame m #[(.ref x0), (.int x1), (.int x2)] 6 = mkF m 0 #[.val (.ref x0), .val (.int x1), .val (.int x2), .unset, .unset, .unset] [] := by first | (simp [entryFrame, mkF, argsToLocals, Value.category]; done) | rfl | (simp [entryFrame, mkF, argsToLocals, Value.category] <;> rfl)
theorem d12_0 : decode jdk_52_method_16_code 0 = .ok (.iload_n 2, 1) := by decide +kernel
theorem d12_1 : decode jdk_52_method_16_code 1 = .ok (.newarray .byte, 2) := by decide +kernel
theorem d12_3 : decode jdk_52_method_16_code 3 = .ok (.astore_n 3, 1) := by decide +kernel
theorem d12_4 : decode jdk_52_method_16_code 4 = .ok (.aload_n 0, 1) := by decide +kernel
theorem d12_5 : decode jdk_52_method_16_code 5 = .ok (.iload_n 1, 1) := by decide +kernel
theorem d12_6 : decode jdk_52_method_16_code 6 = .ok (.aload_n 3, 1) := by decide +kernel
theorem d12_7 : decode jdk_52_method_16_code 7 = .ok (.iconst 0, 1) := by decide +kernel
theorem d12_8 : decode jdk_52_method_16_code 8 = .ok (.iload_n 2, 1) := by decide +kernel
theorem pd_7 : parseMethodDescriptor "([CI[BII)I" = some ⟨[.array .char, .int, .array .byte, .int, .int], some (.int)⟩ := by decide +kernel
theorem d12_9 : decode jdk_52_method_16_code 9 = .ok (.invokestatic 115, 3) := by decide +kernel
theorem d12_12 : decode jdk_52_method_16_code 12 = .ok (.istore 4, 2) := by decide +kernel
theorem d12_14 : decode jdk_52_method_16_code 14 = .ok (.iload 4, 2) := by decide +kernel
theorem d12_16 : decode jdk_52_method_16_code 16 = .ok (.iload_n 2, 1) := by decide +kernel
theorem d12_17 : decode jdk_52_method_16_code 17 = .ok (.if_icmp .eq 40, 3) := by decide +kernel
theorem d12_57 : decode jdk_52_method_16_code 57 = .ok (.aload_n 3, 1) := by decide +kernel
theorem d12_58 : decode jdk_52_method_16_code 58 = .ok (.areturn, 1) := by decide +kernel
set_option maxRecDepth 65536 in
set_option maxHeartbeats 40000000 in
theorem rm_cp3 (l : Launch) (Z : State) (a0 : Array Value) (hw : ∀ d ∈ tables_1, d.before a0 Z = true) (ws : List Jvm.Cond) (sb : Addr) (sk : ClassId) (zn : Int32) (vl : List Value) (h0 : Heap) (n0 : Nat) (Z0 : n0 ≤ h0.size) (F_0 : Arv Z h0 sb sk .char zn vl (.int (0 : Int32))) (hfc : own_fc zn vl) :
    MetFree l (⟨"java/lang/StringUTF16", "compress", "([CII)[B"⟩ : MethodName) (head1 (Jvm.Cond.code (⟨"java/lang/StringUTF16", "compress", "([CII)[B"⟩ : MethodName) jdk_52_method_16_code 6 (some (.array .byte)) :: ws) ({ frames := 1, cells := 1, slots := 8, locals := 18 } : Room)) (fun a U => a = #[(.ref sb), (.int (0 : Int32)), (.int zn)] ∧ Z.Warmed39 U.vm ∧ U.heap = h0) (fun _ _ _ _ _ => True) (fun _ U o U' => ∃ v L, o = .returned v ∧ (Q_cp3 Z sb sk zn vl h0 n0) v U'.heap L ∧ FrameEnd U o U' L ({ frames := 1, cells := 1, slots := 8, locals := 18 } : Room).cells ({ frames := 1, cells := 1, slots := 8, locals := 18 } : Room).slots) := by
  refine MetFree.of_bodySF (plainFor_of_name pn_4) hisR ?_
  intro p e s m args below meth c s₁ Bd hml0 hP hK
  obtain ⟨rfl, hZ, hh⟩ := hP
  have hx := Bd.exec
  have hby := Bd.bytes
  have hW := fun i d (h : tables_1[i]? = some d) => hw d (List.mem_of_getElem? h)
  have hlk : meth.locks = false := BodyLoose.notSynchronized Bd
  have hml : c.maxLocals = 6 := hml0
  have hown : s.vm.findClass "java/lang/StringUTF16" = some m.cls := findClass_of_methodNamed Bd.named
  have hnm := (name_of_methodNamed Bd.named Bd.method).1
  have X0 : Stand p l e ({ frames := 1, cells := 1, slots := 8, locals := 18 } : Room) s m #[(.ref sb), (.int (0 : Int32)), (.int zn)] below meth c s₁ [] 0 0 := Stand.of_body Bd
  have e0 : s₁.heap = h0 := by rw [← hh, Bd.state]; rfl
  have N0 := Fr.nil n0
  show own_Go p e below s (Q_cp3 Z sb sk zn vl h0 n0) ({ frames := 1, cells := 1, slots := 8, locals := 18 } : Room).cells ({ frames := 1, cells := 1, slots := 8, locals := 18 } : Room).slots s₁ (entryFrame m #[(.ref sb), (.int (0 : Int32)), (.int zn)] 6)
  refine own_cast (g' := (mkF m 0 #[rv sb, iv 0, iv zn, u_, u_, u_] [])) (ef_rm_cp3 m sb (0 : Int32) zn) ?_
  have K0 : Keep h0 h0 [] := Keep.refl _ _
  refine own_s s₁ (mkF m 1 #[rv sb, iv 0, iv zn, u_, u_, u_] [.int zn]) (fun t k => XS.iloadN X0.here hx rfl (hb hby d12_0) rfl k) ?_
  obtain ⟨T1, h1, k1, X1, e1, E1, A1, st1⟩ := newP X0 hx hZ (hW 3 _ rfl) e0 (g := (mkF m 1 #[rv sb, iv 0, iv zn, u_, u_, u_] [.int zn])) rfl (hb hby d12_1) rfl (own_fc8 hfc).1 (cap := 8) (own_fc8 hfc).2.1 (by decide) (by decide : 0 + 1 ≤ _) (by decide : 0 + 8 ≤ _)
  obtain ⟨ad1, g_ad1⟩ : ∃ z, z = h0.size := ⟨_, rfl⟩
  rw [← g_ad1] at A1 st1
  have g2 := F_0.ext E1
  have ne1_1 : sb ≠ ad1 := Nat.ne_of_lt (by rw [g_ad1]; exact F_0.lt)
  have o1 : n0 ≤ ad1 := (Nat.le_trans Z0 (Nat.le_of_eq g_ad1.symm))
  have Z1 : n0 ≤ h1.size := (Nat.le_trans Z0 E1.1)
  have f1 : h0.size ≤ ad1 := by rw [g_ad1]; exact K0.1
  have K3 : Keep h0 h1 [] := K0.ext E1
  have V1 : Arv Z h1 ad1 k1 .byte zn [] (.int (0 : Int32)) := Arv.new A1 (own_fc8 hfc).1
  refine own_s T1 (mkF m 3 #[rv sb, iv 0, iv zn, u_, u_, u_] [.ref ad1]) st1 ?_
  refine own_s T1 (mkF m 4 #[rv sb, iv 0, iv zn, rv ad1, u_, u_] []) (fun t k => XS.astoreN X1.here hx rfl (hb hby d12_3) rfl rfl (l' := #[rv sb, iv 0, iv zn, rv ad1, u_, u_]) rfl k) ?_
  refine own_s T1 (mkF m 5 #[rv sb, iv 0, iv zn, rv ad1, u_, u_] [.ref sb]) (fun t k => XS.aloadN X1.here hx rfl (hb hby d12_4) rfl rfl k) ?_
  refine own_s T1 (mkF m 6 #[rv sb, iv 0, iv zn, rv ad1, u_, u_] [.int 0, .ref sb]) (fun t k => XS.iloadN X1.here hx rfl (hb hby d12_5) rfl k) ?_
  refine own_s T1 (mkF m 7 #[rv sb, iv 0, iv zn, rv ad1, u_, u_] [.ref ad1, .int 0, .ref sb]) (fun t k => XS.aloadN X1.here hx rfl (hb hby d12_6) rfl rfl k) ?_
  refine own_s T1 (mkF m 8 #[rv sb, iv 0, iv zn, rv ad1, u_, u_] [.int 0, .ref ad1, .int 0, .ref sb]) (fun t k => XS.iconst X1.here hx rfl (hb hby d12_7) k) ?_
  refine own_s T1 (mkF m 9 #[rv sb, iv 0, iv zn, rv ad1, u_, u_] [.int zn, .int 0, .ref ad1, .int 0, .ref sb]) (fun t k => XS.iloadN X1.here hx rfl (hb hby d12_8) rfl k) ?_
  obtain ⟨_, _, ⟨T7, L7, k7, n7⟩, -, X7, ⟨Lc7, hQ7, lq7, yq7, zq7⟩, st7⟩ := Jvm.LawKit.callS X1 hx (y := (⟨"java/lang/StringUTF16", "compress", "([CI[BII)I"⟩ : MethodName)) hown (mvT hZ (hW 64 _ rfl)) (mvT hZ (hW 65 _ rfl)) (mvT hZ (hW 62 _ rfl)) (mvT hZ (hW 66 _ rfl)) (by decide) (backOf (W := 0) (rm_cp5 l Z a0 hw [] sb sk zn vl ad1 k1 h1 n0 Z1 g2 V1 o1 ne1_1 hfc) hZ (hW 66 _ rfl) (hW 62 _ rfl) (by decide) (by decide)) (g := (mkF m 9 #[rv sb, iv 0, iv zn, rv ad1, u_, u_] [.int zn, .int 0, .ref ad1, .int 0, .ref sb])) rfl (by rw [hml]; rfl) (argsL := [(.ref sb), (.int (0 : Int32)), (.ref ad1), (.int (0 : Int32)), (.int zn)]) (rest := []) (lenOf pd_7 rfl) rfl (by show 2 * 0 + _ ≤ _; exact Nat.le_of_eq rfl) (hb hby d12_9) (fun _ _ => ⟨rfl, e1, (by decide : 1 + 0 ≤ _), (by decide : 8 + 0 ≤ _)⟩)
  dsimp only [Pt.U, Pt.locs, Pt.cells, Pt.slots] at X7 lq7 yq7 zq7 st7 hQ7
  subst lq7 yq7 zq7
  obtain ⟨wl_4, rfl, Nq7, K5, g6, pz5⟩ := hQ7
  have N7 := Fr.app N0 Nq7
  have g8 := g2.keep K5 (ninS ne1_1 nin0)
  have Z5 : n0 ≤ T7.heap.size := (Nat.le_trans Z1 K5.1)
  have K9 : Keep h0 T7.heap [] := K3.trans K5 (allS (P := fun x => x ∈ [] ∨ h0.size ≤ x) (Or.inr f1) all0)
  refine own_s T7 (mkF m 12 #[rv sb, iv 0, iv zn, rv ad1, u_, u_] [.int zn]) st7 ?_
  refine own_s T7 (mkF m 14 #[rv sb, iv 0, iv zn, rv ad1, iv zn, u_] []) (fun t k => XS.istore X7.here hx rfl (hb hby d12_12) rfl (l' := #[rv sb, iv 0, iv zn, rv ad1, iv zn, u_]) rfl k) ?_
  refine own_s T7 (mkF m 16 #[rv sb, iv 0, iv zn, rv ad1, iv zn, u_] [.int zn]) (fun t k => XS.iload X7.here hx rfl (hb hby d12_14) rfl k) ?_
  refine own_s T7 (mkF m 17 #[rv sb, iv 0, iv zn, rv ad1, iv zn, u_] [.int zn, .int zn]) (fun t k => XS.iloadN X7.here hx rfl (hb hby d12_16) rfl k) ?_
  refine own_s T7 (mkF m 57 #[rv sb, iv 0, iv zn, rv ad1, iv zn, u_] []) (fun t k => XS.icmpYes X7.here hx rfl (pc0 := 17) (pc' := 57) rfl (hb hby d12_17) rfl (teq rfl).1 (by decide) (by decide) k) ?_
  refine own_s T7 (mkF m 58 #[rv sb, iv 0, iv zn, rv ad1, iv zn, u_] [.ref ad1]) (fun t k => XS.aloadN X7.here hx rfl (hb hby d12_57) rfl rfl k) ?_
  refine own_rA X7 hx hlk Bd.returns rfl (w := (.ref ad1)) rfl (hb hby d12_58) ?_ (by decide) (by decide)
  exact ⟨ad1, k1, wl_4, rfl, N7, K9, f1, g6, pz5⟩
def Q_s4 (Z : State) (wa : Addr) (sb : Addr) (sk : ClassId) (zn : Int32) (vl : List Value) (u1 : Value) (u2 : Value) (ic : Int32) (h0 : Heap) (n0 : Nat) (v : Option Value) (h : Heap) (L : List Loc) : Prop := ∃ (b : Addr) (kb : ClassId) (wl : List Value), v = none ∧ Fr n0 L ∧ Keep h0 h [wa] ∧ h0.size ≤ b ∧ wa ≠ b ∧ Exa Z h wa "java/lang/String" ∧ Fld Z h wa "java/lang/String" "value" "[B" (.ref b) ∧ Fld Z h wa "java/lang/String" "coder" "B" (.int (0 : Int32)) ∧ Arv Z h b kb .byte zn wl (.int (0 : Int32)) ∧ own_form zn wl
theorem ef_rm_s4 (m : MethodId) (x0 : Addr) (x1 : Addr) (x2 : Int32) (x3 : Int32) : entryFrame m #[(.ref x0), (.ref x1), (.int x2), (.int x3), .null] 6 = mkF m 0 #[.val (.ref x0), .val (.ref x1), .val (.int x2), .val (.int x3), .val .null, .unset] [] := by first | (simp [entryFrame, mkF, argsToLocals, Value.category]; done) | rfl | (simp [entryFrame, mkF, argsToLocals, Value.category] <;> rfl)
theorem d10_0 : decode jdk_42_method_149_code 0 = .ok (.aload_n 0, 1) := by decide +kernel
theorem d10_1 : decode jdk_42_method_149_code 1 = .ok (.invokespecial 1, 3) := by decide +kernel
theorem d10_4 : decode jdk_42_method_149_code 4 = .ok (.iload_n 3, 1) := by decide +kernel
theorem d10_5 : decode jdk_42_method_149_code 5 = .ok (.ifCond .ne 22, 3) := by decide +kernel
theorem d10_27 : decode jdk_42_method_149_code 27 = .ok (.getstatic 38, 3) := by decide +kernel
theorem d10_30 : decode jdk_42_method_149_code 30 = .ok (.ifCond .eq 28, 3) := by decide +kernel
theorem d10_33 : decode jdk_42_method_149_code 33 = .ok (.aload_n 1, 1) := by decide +kernel
theorem d10_34 : decode jdk_42_method_149_code 34 = .ok (.iload_n 2, 1) := by decide +kernel
theorem d10_35 : decode jdk_42_method_149_code 35 = .ok (.iload_n 3, 1) := by decide +kernel
theorem pd_8 : parseMethodDescriptor "([CII)[B" = some ⟨[.array .char, .int, .int], some (.array .byte)⟩ := by decide +kernel
theorem d10_36 : decode jdk_42_method_149_code 36 = .ok (.invokestatic 177, 3) := by decide +kernel
theorem d10_39 : decode jdk_42_method_149_code 39 = .ok (.astore 5, 2) := by decide +kernel
theorem d10_41 : decode jdk_42_method_149_code 41 = .ok (.aload_n 0, 1) := by decide +kernel
theorem d10_42 : decode jdk_42_method_149_code 42 = .ok (.aload 5, 2) := by decide +kernel
theorem d10_44 : decode jdk_42_method_149_code 44 = .ok (.iload_n 3, 1) := by decide +kernel
theorem pd_9 : parseMethodDescriptor "([BI)B" = some ⟨[.array .byte, .int], some (.byte)⟩ := by decide +kernel
theorem d10_45 : decode jdk_42_method_149_code 45 = .ok (.invokestatic 47, 3) := by decide +kernel
theorem d10_48 : decode jdk_42_method_149_code 48 = .ok (.putfield 15, 3) := by decide +kernel
theorem d10_51 : decode jdk_42_method_149_code 51 = .ok (.aload_n 0, 1) := by decide +kernel
theorem d10_52 : decode jdk_42_method_149_code 52 = .ok (.aload 5, 2) := by decide +kernel
theorem d10_54 : decode jdk_42_method_149_code 54 = .ok (.putfield 9, 3) := by decide +kernel
theorem d10_57 : decode jdk_42_method_149_code 57 = .ok (.return_, 1) := by decide +kernel
set_option maxRecDepth 65536 in
set_option maxHeartbeats 40000000 in
theorem rm_s4 (l : Launch) (Z : State) (a0 : Array Value) (hw : ∀ d ∈ tables_1, d.before a0 Z = true) (ws : List Jvm.Cond) (wa : Addr) (sb : Addr) (sk : ClassId) (zn : Int32) (vl : List Value) (u1 : Value) (u2 : Value) (ic : Int32) (h0 : Heap) (n0 : Nat) (Z0 : n0 ≤ h0.size) (F_0 : Exa Z h0 wa "java/lang/String") (F_1 : Fld Z h0 wa "java/lang/String" "value" "[B" u1) (F_2 : Fld Z h0 wa "java/lang/String" "coder" "B" u2) (F_3 : Arv Z h0 sb sk .char zn vl (.int (0 : Int32))) (o_wa : n0 ≤ wa) (n_wa_sb : wa ≠ sb) (O0 : Old Z n0 h0) (hfc : own_fc zn vl) (S_c : Sta Z Z.heap "java/lang/String" "COMPACT_STRINGS" "Z" (.int ic)) (hic : ¬ ic = 0) :
    MetFree l (⟨"java/lang/String", "<init>", "([CIILjava/lang/Void;)V"⟩ : MethodName) (head1 (Jvm.Cond.code (⟨"java/lang/String", "<init>", "([CIILjava/lang/Void;)V"⟩ : MethodName) jdk_42_method_149_code 6 none :: ws) ({ frames := 2, cells := 1, slots := 8, locals := 35 } : Room)) (fun a U => a = #[(.ref wa), (.ref sb), (.int (0 : Int32)), (.int zn), .null] ∧ Z.Warmed39 U.vm ∧ U.heap = h0) (fun _ _ _ _ _ => True) (fun _ U o U' => ∃ v L, o = .returned v ∧ (Q_s4 Z wa sb sk zn vl u1 u2 ic h0 n0) v U'.heap L ∧ FrameEnd U o U' L ({ frames := 2, cells := 1, slots := 8, locals := 35 } : Room).cells ({ frames := 2, cells := 1, slots := 8, locals := 35 } : Room).slots) := by
  refine MetFree.of_bodySF (plainFor_of_name pn_0) hisR ?_
  intro p e s m args below meth c s₁ Bd hml0 hP hK
  obtain ⟨rfl, hZ, hh⟩ := hP
  have hx := Bd.exec
  have hby := Bd.bytes
  have hW := fun i d (h : tables_1[i]? = some d) => hw d (List.mem_of_getElem? h)
  have hlk : meth.locks = false := BodyLoose.notSynchronized Bd
  have hml : c.maxLocals = 6 := hml0
  have hown : s.vm.findClass "java/lang/String" = some m.cls := findClass_of_methodNamed Bd.named
  have hnm := (name_of_methodNamed Bd.named Bd.method).1
  have X0 : Stand p l e ({ frames := 2, cells := 1, slots := 8, locals := 35 } : Room) s m #[(.ref wa), (.ref sb), (.int (0 : Int32)), (.int zn), .null] below meth c s₁ [] 0 0 := Stand.of_body Bd
  have e0 : s₁.heap = h0 := by rw [← hh, Bd.state]; rfl
  have N0 := Fr.nil n0
  show own_Go p e below s (Q_s4 Z wa sb sk zn vl u1 u2 ic h0 n0) ({ frames := 2, cells := 1, slots := 8, locals := 35 } : Room).cells ({ frames := 2, cells := 1, slots := 8, locals := 35 } : Room).slots s₁ (entryFrame m #[(.ref wa), (.ref sb), (.int (0 : Int32)), (.int zn), .null] 6)
  refine own_cast (g' := (mkF m 0 #[rv wa, rv sb, iv 0, iv zn, .val .null, u_] [])) (ef_rm_s4 m wa sb (0 : Int32) zn) ?_
  have K0 : Keep h0 h0 [wa] := Keep.refl _ _
  refine own_s s₁ (mkF m 1 #[rv wa, rv sb, iv 0, iv zn, .val .null, u_] [.ref wa]) (fun t k => XS.aloadN X0.here hx rfl (hb hby d10_0) rfl rfl k) ?_
  obtain ⟨T1, X1, e1, st1⟩ := initO X0 hx hZ hown (hW 57 _ rfl) (hW 58 _ rfl) (hW 59 _ rfl) e0 (g := (mkF m 1 #[rv wa, rv sb, iv 0, iv zn, .val .null, u_] [.ref wa])) rfl (by rw [hml]; rfl) rfl (hb hby d10_1) (by decide) (W := 0) (by show 2 * 0 + _ ≤ _; exact Nat.le_of_eq rfl) (by decide)
  refine own_s T1 (mkF m 4 #[rv wa, rv sb, iv 0, iv zn, .val .null, u_] []) st1 ?_
  refine own_s T1 (mkF m 5 #[rv wa, rv sb, iv 0, iv zn, .val .null, u_] [.int zn]) (fun t k => XS.iloadN X1.here hx rfl (hb hby d10_4) rfl k) ?_
  refine own_s T1 (mkF m 27 #[rv wa, rv sb, iv 0, iv zn, .val .null, u_] []) (fun t k => XS.ifYes X1.here hx rfl (pc0 := 5) (pc' := 27) rfl (hb hby d10_5) rfl ((if0 _ _).trans (feq (own_fc8 hfc).2.2).2) (by decide) (by decide) k) ?_
  obtain ⟨T2, X2, e2, st2⟩ := getS2 X1 hx hZ hown (host := "") (Or.inl (hW 19 _ rfl)) Via.refl e1 (S_c.ext O0.2) (g := (mkF m 27 #[rv wa, rv sb, iv 0, iv zn, .val .null, u_] [])) rfl (hb hby d10_27)
  refine own_s T2 (mkF m 30 #[rv wa, rv sb, iv 0, iv zn, .val .null, u_] [.int ic]) st2 ?_
  refine own_s T2 (mkF m 33 #[rv wa, rv sb, iv 0, iv zn, .val .null, u_] []) (fun t k => XS.ifNo X2.here hx rfl (hb hby d10_30) rfl ((if0 _ _).trans (feq hic).1) k) ?_
  refine own_s T2 (mkF m 34 #[rv wa, rv sb, iv 0, iv zn, .val .null, u_] [.ref sb]) (fun t k => XS.aloadN X2.here hx rfl (hb hby d10_33) rfl rfl k) ?_
  refine own_s T2 (mkF m 35 #[rv wa, rv sb, iv 0, iv zn, .val .null, u_] [.int 0, .ref sb]) (fun t k => XS.iloadN X2.here hx rfl (hb hby d10_34) rfl k) ?_
  refine own_s T2 (mkF m 36 #[rv wa, rv sb, iv 0, iv zn, .val .null, u_] [.int zn, .int 0, .ref sb]) (fun t k => XS.iloadN X2.here hx rfl (hb hby d10_35) rfl k) ?_
  obtain ⟨_, _, ⟨T6, L6, k6, n6⟩, -, X6, ⟨Lc6, hQ6, lq6, yq6, zq6⟩, st6⟩ := Jvm.LawKit.callS X2 hx (y := (⟨"java/lang/StringUTF16", "compress", "([CII)[B"⟩ : MethodName)) hown (mvT hZ (hW 60 _ rfl)) (mvT hZ (hW 61 _ rfl)) (mvT hZ (hW 62 _ rfl)) (mvT hZ (hW 63 _ rfl)) (by decide) (backOf (W := 0) (rm_cp3 l Z a0 hw [] sb sk zn vl h0 n0 Z0 F_3 hfc) hZ (hW 63 _ rfl) (hW 62 _ rfl) (by decide) (by decide)) (g := (mkF m 36 #[rv wa, rv sb, iv 0, iv zn, .val .null, u_] [.int zn, .int 0, .ref sb])) rfl (by rw [hml]; rfl) (argsL := [(.ref sb), (.int (0 : Int32)), (.int zn)]) (rest := []) (lenOf pd_8 rfl) rfl (by show 2 * 0 + _ ≤ _; exact Nat.le_of_eq rfl) (hb hby d10_36) (fun _ _ => ⟨rfl, e2, (by decide : 0 + 1 ≤ _), (by decide : 0 + 8 ≤ _)⟩)
  dsimp only [Pt.U, Pt.locs, Pt.cells, Pt.slots] at X6 lq6 yq6 zq6 st6 hQ6
  subst lq6 yq6 zq6
  obtain ⟨b_3, kb_3, wl_3, rfl, Nq6, K4, fz_b_3, g5, pz4⟩ := hQ6
  have N6 := Fr.app N0 Nq6
  have oz_b_3 : n0 ≤ b_3 := Nat.le_trans Z0 fz_b_3
  have nz_wa_b_3 : wa ≠ b_3 := Nat.ne_of_lt (Nat.lt_of_lt_of_le F_0.lt fz_b_3)
  have nz_sb_b_3 : sb ≠ b_3 := Nat.ne_of_lt (Nat.lt_of_lt_of_le F_3.lt fz_b_3)
  have fr_b_3 : h0.size ≤ b_3 := Nat.le_trans K0.1 fz_b_3
  have g7 := F_0.keep K4
  have g8 := F_1.keep K4 nin0
  have g9 := F_2.keep K4 nin0
  have g10 := F_3.keep K4 nin0
  have Z4 : n0 ≤ T6.heap.size := (Nat.le_trans Z0 K4.1)
  have O4 : Old Z n0 T6.heap := O0.keep K4 (all0 (P := fun x => n0 ≤ x))
  have K11 : Keep h0 T6.heap [wa] := K0.trans K4 (all0 (P := fun x => x ∈ [wa] ∨ h0.size ≤ x))
  refine own_s T6 (mkF m 39 #[rv wa, rv sb, iv 0, iv zn, .val .null, u_] [.ref b_3]) st6 ?_
  refine own_s T6 (mkF m 41 #[rv wa, rv sb, iv 0, iv zn, .val .null, rv b_3] []) (fun t k => XS.astore X6.here hx rfl (hb hby d10_39) rfl rfl (l' := #[rv wa, rv sb, iv 0, iv zn, .val .null, rv b_3]) rfl k) ?_
  refine own_s T6 (mkF m 42 #[rv wa, rv sb, iv 0, iv zn, .val .null, rv b_3] [.ref wa]) (fun t k => XS.aloadN X6.here hx rfl (hb hby d10_41) rfl rfl k) ?_
  refine own_s T6 (mkF m 44 #[rv wa, rv sb, iv 0, iv zn, .val .null, rv b_3] [.ref b_3, .ref wa]) (fun t k => XS.aload X6.here hx rfl (hb hby d10_42) rfl rfl k) ?_
  refine own_s T6 (mkF m 45 #[rv wa, rv sb, iv 0, iv zn, .val .null, rv b_3] [.int zn, .ref b_3, .ref wa]) (fun t k => XS.iloadN X6.here hx rfl (hb hby d10_44) rfl k) ?_
  obtain ⟨_, _, ⟨T14, L14, k14, n14⟩, -, X14, ⟨Lc14, hQ14, lq14, yq14, zq14⟩, st14⟩ := Jvm.LawKit.callS X6 hx (y := (⟨"java/lang/StringUTF16", "coderFromArrayLen", "([BI)B"⟩ : MethodName)) hown (mvT hZ (hW 67 _ rfl)) (mvT hZ (hW 68 _ rfl)) (mvT hZ (hW 62 _ rfl)) (mvT hZ (hW 69 _ rfl)) (by decide) (backOf (W := 1) (rm_cfa l Z a0 hw [] b_3 kb_3 zn wl_3 T6.heap n0 Z4 g5) hZ (hW 69 _ rfl) (hW 62 _ rfl) (by decide) (by decide)) (g := (mkF m 45 #[rv wa, rv sb, iv 0, iv zn, .val .null, rv b_3] [.int zn, .ref b_3, .ref wa])) rfl (by rw [hml]; rfl) (argsL := [(.ref b_3), (.int zn)]) (rest := [(.ref wa)]) (lenOf pd_9 rfl) rfl (by show 2 * 0 + _ ≤ _; exact Nat.le_of_eq rfl) (hb hby d10_45) (fun _ _ => ⟨rfl, rfl, (by decide : 1 + 0 ≤ _), (by decide : 8 + 0 ≤ _)⟩)
  dsimp only [Pt.U, Pt.locs, Pt.cells, Pt.slots] at X14 lq14 yq14 zq14 st14 hQ14
  subst lq14 yq14 zq14
  obtain ⟨rfl, Nq14, eq13⟩ := hQ14
  have N14 := Fr.app N6 Nq14
  refine own_s T14 (mkF m 48 #[rv wa, rv sb, iv 0, iv zn, .val .null, rv b_3] [.int 0, .ref wa]) st14 ?_
  obtain ⟨T15, h15, X15, e15, W15, st15⟩ := putF X14 hx hZ hown (host := "") (Or.inl (hW 20 _ rfl)) Via.refl eq13 g9 g7 (Or.inr ⟨(hW 5 _ rfl), rfl, hnm⟩) (hW 2 _ rfl) (ty := .byte) (by decide) rfl rfl (g := (mkF m 48 #[rv wa, rv sb, iv 0, iv zn, .val .null, rv b_3] [.int 0, .ref wa])) rfl rfl (hb hby d10_48)
  have g16 := g7.wr W15
  have g17 := g8.other W15 (Or.inr (slot_ne (Or.inr (hW 4 _ rfl)) (Or.inr (hW 5 _ rfl)) (by decide) (t := .array .byte) (t' := .byte) (by decide) (by decide)))
  have g18 : Fld Z h15 wa "java/lang/String" "coder" "B" (.int (0 : Int32)) := g9.same W15
  have g19 := g10.other W15 (Ne.symm n_wa_sb)
  have g20 := g5.other W15 (Ne.symm nz_wa_b_3)
  have K21 : Keep h0 h15 [wa] := K11.wr W15 (Or.inl (List.mem_of_getElem? (i := 0) rfl))
  have N15 := Fr.snoc X15 N14 o_wa
  have Z15 : n0 ≤ h15.size := (Nat.le_trans Z4 (Nat.le_of_eq W15.size.symm))
  have O15 : Old Z n0 h15 := O4.wr W15 o_wa
  refine own_s T15 (mkF m 51 #[rv wa, rv sb, iv 0, iv zn, .val .null, rv b_3] []) st15 ?_
  refine own_s T15 (mkF m 52 #[rv wa, rv sb, iv 0, iv zn, .val .null, rv b_3] [.ref wa]) (fun t k => XS.aloadN X15.here hx rfl (hb hby d10_51) rfl rfl k) ?_
  refine own_s T15 (mkF m 54 #[rv wa, rv sb, iv 0, iv zn, .val .null, rv b_3] [.ref b_3, .ref wa]) (fun t k => XS.aload X15.here hx rfl (hb hby d10_52) rfl rfl k) ?_
  obtain ⟨T22, h22, X22, e22, W22, st22⟩ := putF X15 hx hZ hown (host := "") (Or.inl (hW 13 _ rfl)) Via.refl e15 g17 g16 (Or.inr ⟨(hW 4 _ rfl), rfl, hnm⟩) (hW 2 _ rfl) (ty := .array .byte) (by decide) rfl rfl (g := (mkF m 54 #[rv wa, rv sb, iv 0, iv zn, .val .null, rv b_3] [.ref b_3, .ref wa])) rfl rfl (hb hby d10_54)
  have g23 := g16.wr W22
  have g24 : Fld Z h22 wa "java/lang/String" "value" "[B" (.ref b_3) := g17.same W22
  have g25 := g18.other W22 (Or.inr (slot_ne (Or.inr (hW 5 _ rfl)) (Or.inr (hW 4 _ rfl)) (by decide) (t := .byte) (t' := .array .byte) (by decide) (by decide)))
  have g26 := g19.other W22 (Ne.symm n_wa_sb)
  have g27 := g20.other W22 (Ne.symm nz_wa_b_3)
  have K28 : Keep h0 h22 [wa] := K21.wr W22 (Or.inl (List.mem_of_getElem? (i := 0) rfl))
  have N22 := Fr.snoc X22 N15 o_wa
  have Z22 : n0 ≤ h22.size := (Nat.le_trans Z15 (Nat.le_of_eq W22.size.symm))
  have O22 : Old Z n0 h22 := O15.wr W22 o_wa
  refine own_s T22 (mkF m 57 #[rv wa, rv sb, iv 0, iv zn, .val .null, rv b_3] []) st22 ?_
  refine own_rV X22 hx hlk Bd.returns (hb hby d10_57) ?_ (by decide) (by decide)
  rw [e22]
  exact ⟨b_3, kb_3, wl_3, rfl, N22, K28, fr_b_3, nz_wa_b_3, g23, g24, g25, g27, pz4⟩
def Q_s1 (Z : State) (wa : Addr) (sb : Addr) (sk : ClassId) (zn : Int32) (vl : List Value) (u1 : Value) (u2 : Value) (ic : Int32) (h0 : Heap) (n0 : Nat) (v : Option Value) (h : Heap) (L : List Loc) : Prop := ∃ (b : Addr) (kb : ClassId) (wl : List Value), v = none ∧ Fr n0 L ∧ Keep h0 h [wa] ∧ h0.size ≤ b ∧ wa ≠ b ∧ Exa Z h wa "java/lang/String" ∧ Fld Z h wa "java/lang/String" "value" "[B" (.ref b) ∧ Fld Z h wa "java/lang/String" "coder" "B" (.int (0 : Int32)) ∧ Arv Z h b kb .byte zn wl (.int (0 : Int32)) ∧ own_form zn wl
theorem ef_rm_s1 (m : MethodId) (x0 : Addr) (x1 : Addr) : entryFrame m #[(.ref x0), (.ref x1)] 2 = mkF m 0 #[.val (.ref x0), .val (.ref x1)] [] := by first | (simp [entryFrame, mkF, argsToLocals, Value.category]; done) | rfl | (simp [entryFrame, mkF, argsToLocals, Value.category] <;> rfl)
theorem d9_0 : decode jdk_42_method_3_code 0 = .ok (.aload_n 0, 1) := by decide +kernel
theorem d9_1 : decode jdk_42_method_3_code 1 = .ok (.aload_n 1, 1) := by decide +kernel
theorem d9_2 : decode jdk_42_method_3_code 2 = .ok (.iconst 0, 1) := by decide +kernel
theorem d9_3 : decode jdk_42_method_3_code 3 = .ok (.aload_n 1, 1) := by decide +kernel
theorem d9_4 : decode jdk_42_method_3_code 4 = .ok (.arraylength, 1) := by decide +kernel
theorem d9_5 : decode jdk_42_method_3_code 5 = .ok (.aconst_null, 1) := by decide +kernel
theorem pd_10 : parseMethodDescriptor "([CIILjava/lang/Void;)V" = some ⟨[.array .char, .int, .int, .object "java/lang/Void"], none⟩ := by decide +kernel
theorem d9_6 : decode jdk_42_method_3_code 6 = .ok (.invokespecial 27, 3) := by decide +kernel
theorem d9_9 : decode jdk_42_method_3_code 9 = .ok (.return_, 1) := by decide +kernel
set_option maxRecDepth 65536 in
set_option maxHeartbeats 40000000 in
theorem rm_s1 (l : Launch) (Z : State) (a0 : Array Value) (hw : ∀ d ∈ tables_1, d.before a0 Z = true) (ws : List Jvm.Cond) (wa : Addr) (sb : Addr) (sk : ClassId) (zn : Int32) (vl : List Value) (u1 : Value) (u2 : Value) (ic : Int32) (h0 : Heap) (n0 : Nat) (Z0 : n0 ≤ h0.size) (F_0 : Exa Z h0 wa "java/lang/String") (F_1 : Fld Z h0 wa "java/lang/String" "value" "[B" u1) (F_2 : Fld Z h0 wa "java/lang/String" "coder" "B" u2) (F_3 : Arv Z h0 sb sk .char zn vl (.int (0 : Int32))) (o_wa : n0 ≤ wa) (n_wa_sb : wa ≠ sb) (O0 : Old Z n0 h0) (hfc : own_fc zn vl) (S_c : Sta Z Z.heap "java/lang/String" "COMPACT_STRINGS" "Z" (.int ic)) (hic : ¬ ic = 0) :
    MetFree l (⟨"java/lang/String", "<init>", "([C)V"⟩ : MethodName) (head1 (Jvm.Cond.code (⟨"java/lang/String", "<init>", "([C)V"⟩ : MethodName) jdk_42_method_3_code 2 none :: ws) ({ frames := 3, cells := 1, slots := 8, locals := 52 } : Room)) (fun a U => a = #[(.ref wa), (.ref sb)] ∧ Z.Warmed39 U.vm ∧ U.heap = h0) (fun _ _ _ _ _ => True) (fun _ U o U' => ∃ v L, o = .returned v ∧ (Q_s1 Z wa sb sk zn vl u1 u2 ic h0 n0) v U'.heap L ∧ FrameEnd U o U' L ({ frames := 3, cells := 1, slots := 8, locals := 52 } : Room).cells ({ frames := 3, cells := 1, slots := 8, locals := 52 } : Room).slots) := by
  refine MetFree.of_bodySF (plainFor_of_name pn_0) hisR ?_
  intro p e s m args below meth c s₁ Bd hml0 hP hK
  obtain ⟨rfl, hZ, hh⟩ := hP
  have hx := Bd.exec
  have hby := Bd.bytes
  have hW := fun i d (h : tables_1[i]? = some d) => hw d (List.mem_of_getElem? h)
  have hlk : meth.locks = false := BodyLoose.notSynchronized Bd
  have hml : c.maxLocals = 2 := hml0
  have hown : s.vm.findClass "java/lang/String" = some m.cls := findClass_of_methodNamed Bd.named
  have hnm := (name_of_methodNamed Bd.named Bd.method).1
  have X0 : Stand p l e ({ frames := 3, cells := 1, slots := 8, locals := 52 } : Room) s m #[(.ref wa), (.ref sb)] below meth c s₁ [] 0 0 := Stand.of_body Bd
  have e0 : s₁.heap = h0 := by rw [← hh, Bd.state]; rfl
  have N0 := Fr.nil n0
  show own_Go p e below s (Q_s1 Z wa sb sk zn vl u1 u2 ic h0 n0) ({ frames := 3, cells := 1, slots := 8, locals := 52 } : Room).cells ({ frames := 3, cells := 1, slots := 8, locals := 52 } : Room).slots s₁ (entryFrame m #[(.ref wa), (.ref sb)] 2)
  refine own_cast (g' := (mkF m 0 #[rv wa, rv sb] [])) (ef_rm_s1 m wa sb) ?_
  have K0 : Keep h0 h0 [wa] := Keep.refl _ _
  refine own_s s₁ (mkF m 1 #[rv wa, rv sb] [.ref wa]) (fun t k => XS.aloadN X0.here hx rfl (hb hby d9_0) rfl rfl k) ?_
  refine own_s s₁ (mkF m 2 #[rv wa, rv sb] [.ref sb, .ref wa]) (fun t k => XS.aloadN X0.here hx rfl (hb hby d9_1) rfl rfl k) ?_
  refine own_s s₁ (mkF m 3 #[rv wa, rv sb] [.int 0, .ref sb, .ref wa]) (fun t k => XS.iconst X0.here hx rfl (hb hby d9_2) k) ?_
  refine own_s s₁ (mkF m 4 #[rv wa, rv sb] [.ref sb, .int 0, .ref sb, .ref wa]) (fun t k => XS.aloadN X0.here hx rfl (hb hby d9_3) rfl rfl k) ?_
  obtain ⟨cl1, Ar1, qa1, S1, M1, H1, U1⟩ := id F_3
  have ln1 := len_of S1 M1
  refine own_s s₁ (mkF m 5 #[rv wa, rv sb] [.int zn, .int 0, .ref sb, .ref wa]) (fun t k => X0.arraylength hx (cell := cl1) (by rw [e0]; exact Ar1.1) (State.isArrayOf_alike hZ.alike Ar1.2.1) (g := (mkF m 4 #[rv wa, rv sb] [.ref sb, .int 0, .ref sb, .ref wa])) rfl rfl (hb hby d9_4) t (by rw [ln1]; exact k)) ?_
  refine own_s s₁ (mkF m 6 #[rv wa, rv sb] [.null, .int zn, .int 0, .ref sb, .ref wa]) (fun t k => XS.aconstNull X0.here hx rfl (hb hby d9_5) k) ?_
  obtain ⟨_, _, ⟨T8, L8, k8, n8⟩, -, X8, ⟨Lc8, hQ8, lq8, yq8, zq8⟩, st8⟩ := X0.specialBack hx (y := (⟨"java/lang/String", "<init>", "([CIILjava/lang/Void;)V"⟩ : MethodName)) rfl hown (mvT hZ (hW 53 _ rfl)) (mvT hZ (hW 54 _ rfl)) (mvT hZ (hW 56 _ rfl)) (by decide) (backOf (W := 0) (rm_s4 l Z a0 hw [] wa sb sk zn vl u1 u2 ic h0 n0 Z0 F_0 F_1 F_2 F_3 o_wa n_wa_sb O0 hfc S_c hic) hZ (hW 56 _ rfl) (hW 1 _ rfl) (by decide) (by decide)) (g := (mkF m 6 #[rv wa, rv sb] [.null, .int zn, .int 0, .ref sb, .ref wa])) rfl (by rw [hml]; rfl) (Steps.refl _) (a := wa) (argsL := [(.ref sb), (.int (0 : Int32)), (.int zn), .null]) (rest := []) (lenOf pd_10 rfl) rfl (by show 2 * 0 + _ ≤ _; exact Nat.le_of_eq rfl) (hb hby d9_6) (fun _ _ => ⟨rfl, e0, (by decide : 0 + 1 ≤ _), (by decide : 0 + 8 ≤ _)⟩)
  dsimp only [Pt.U, Pt.locs, Pt.cells, Pt.slots] at X8 lq8 yq8 zq8 st8 hQ8
  subst lq8 yq8 zq8
  obtain ⟨b_2, kb_2, wl_2, rfl, Nq8, K3, fz_b_2, nz_wa_b_2, g4, g5, g6, g7, pz3⟩ := hQ8
  have N8 := Fr.app N0 Nq8
  have oz_b_2 : n0 ≤ b_2 := Nat.le_trans Z0 fz_b_2
  have nz_wa_b_2 : wa ≠ b_2 := Nat.ne_of_lt (Nat.lt_of_lt_of_le F_0.lt fz_b_2)
  have nz_sb_b_2 : sb ≠ b_2 := Nat.ne_of_lt (Nat.lt_of_lt_of_le F_3.lt fz_b_2)
  have fr_b_2 : h0.size ≤ b_2 := Nat.le_trans K0.1 fz_b_2
  have g9 := F_3.keep K3 (ninS (Ne.symm n_wa_sb) nin0)
  have Z3 : n0 ≤ T8.heap.size := (Nat.le_trans Z0 K3.1)
  have O3 : Old Z n0 T8.heap := O0.keep K3 (allS (P := fun x => n0 ≤ x) o_wa all0)
  have K10 : Keep h0 T8.heap [wa] := K0.trans K3 (allS (P := fun x => x ∈ [wa] ∨ h0.size ≤ x) (Or.inl (List.mem_of_getElem? (i := 0) rfl)) all0)
  refine own_tr (T' := T8) (g' := (mkF m 9 #[rv wa, rv sb] [])) st8 ?_
  refine own_rV X8 hx hlk Bd.returns (hb hby d9_9) ?_ (by decide) (by decide)
  exact ⟨b_2, kb_2, wl_2, rfl, N8, K10, fr_b_2, nz_wa_b_2, g4, g5, g6, g7, pz3⟩
def Q_leqV1 (Z : State) (wb : Addr) (wk : ClassId) (zn : Int32) (wl : List Value) (sb : Addr) (sk : ClassId) (h0 : Heap) (n0 : Nat) (v : Option Value) (h : Heap) (L : List Loc) : Prop := v = some (.int (own_beq wl own_LV)) ∧ Fr n0 L ∧ h = h0
theorem ef_rm_leqV1 (m : MethodId) (x0 : Addr) (x1 : Addr) : entryFrame m #[(.ref x0), (.ref x1)] 3 = mkF m 0 #[.val (.ref x0), .val (.ref x1), .unset] [] := by first | (simp [entryFrame, mkF, argsToLocals, Value.category]; done) | rfl | (simp [entryFrame, mkF, argsToLocals, Value.category] <;> rfl)
theorem d16_0 : decode jdk_43_method_13_code 0 = .ok (.aload_n 0, 1) := by decide +kernel
theorem d16_1 : decode jdk_43_method_13_code 1 = .ok (.arraylength, 1) := by decide +kernel
theorem d16_2 : decode jdk_43_method_13_code 2 = .ok (.aload_n 1, 1) := by decide +kernel
theorem d16_3 : decode jdk_43_method_13_code 3 = .ok (.arraylength, 1) := by decide +kernel
theorem d16_4 : decode jdk_43_method_13_code 4 = .ok (.if_icmp .ne 30, 3) := by decide +kernel
theorem d16_7 : decode jdk_43_method_13_code 7 = .ok (.iconst 0, 1) := by decide +kernel
theorem d16_8 : decode jdk_43_method_13_code 8 = .ok (.istore_n 2, 1) := by decide +kernel
theorem d16_9 : decode jdk_43_method_13_code 9 = .ok (.iload_n 2, 1) := by decide +kernel
theorem d16_10 : decode jdk_43_method_13_code 10 = .ok (.aload_n 0, 1) := by decide +kernel
theorem d16_11 : decode jdk_43_method_13_code 11 = .ok (.arraylength, 1) := by decide +kernel
theorem d16_12 : decode jdk_43_method_13_code 12 = .ok (.if_icmp .ge 20, 3) := by decide +kernel
theorem d16_15 : decode jdk_43_method_13_code 15 = .ok (.aload_n 0, 1) := by decide +kernel
theorem d16_16 : decode jdk_43_method_13_code 16 = .ok (.iload_n 2, 1) := by decide +kernel
theorem d16_17 : decode jdk_43_method_13_code 17 = .ok (.baload, 1) := by decide +kernel
theorem d16_18 : decode jdk_43_method_13_code 18 = .ok (.aload_n 1, 1) := by decide +kernel
theorem d16_19 : decode jdk_43_method_13_code 19 = .ok (.iload_n 2, 1) := by decide +kernel
theorem d16_20 : decode jdk_43_method_13_code 20 = .ok (.baload, 1) := by decide +kernel
theorem d16_21 : decode jdk_43_method_13_code 21 = .ok (.if_icmp .eq 5, 3) := by decide +kernel
theorem d16_26 : decode jdk_43_method_13_code 26 = .ok (.iinc 2 1, 3) := by decide +kernel
theorem d16_29 : decode jdk_43_method_13_code 29 = .ok (.goto (-20), 3) := by decide +kernel
theorem d16_32 : decode jdk_43_method_13_code 32 = .ok (.iconst 1, 1) := by decide +kernel
theorem d16_33 : decode jdk_43_method_13_code 33 = .ok (.ireturn, 1) := by decide +kernel
theorem d16_24 : decode jdk_43_method_13_code 24 = .ok (.iconst 0, 1) := by decide +kernel
theorem d16_25 : decode jdk_43_method_13_code 25 = .ok (.ireturn, 1) := by decide +kernel
theorem d16_34 : decode jdk_43_method_13_code 34 = .ok (.iconst 0, 1) := by decide +kernel
theorem d16_35 : decode jdk_43_method_13_code 35 = .ok (.ireturn, 1) := by decide +kernel
set_option maxRecDepth 65536 in
set_option maxHeartbeats 40000000 in
theorem rm_leqV1 (l : Launch) (Z : State) (a0 : Array Value) (hw : ∀ d ∈ tables_1, d.before a0 Z = true) (ws : List Jvm.Cond) (wb : Addr) (wk : ClassId) (zn : Int32) (wl : List Value) (sb : Addr) (sk : ClassId) (h0 : Heap) (n0 : Nat) (Z0 : n0 ≤ h0.size) (F_0 : Arv Z h0 sb sk .byte (5 : Int32) [(.int (118 : Int32)), (.int (97 : Int32)), (.int (108 : Int32)), (.int (105 : Int32)), (.int (100 : Int32))] (.int (0 : Int32))) (F_1 : Arv Z h0 wb wk .byte zn wl (.int (0 : Int32))) (hform : own_form zn wl) :
    MetFree l (⟨"java/lang/StringLatin1", "equals", "([B[B)Z"⟩ : MethodName) (head1 (Jvm.Cond.code (⟨"java/lang/StringLatin1", "equals", "([B[B)Z"⟩ : MethodName) jdk_43_method_13_code 3 (some (.boolean)) :: ws) ({ frames := 0, cells := 0, slots := 0, locals := 0 } : Room)) (fun a U => a = #[(.ref wb), (.ref sb)] ∧ Z.Warmed39 U.vm ∧ U.heap = h0) (fun _ _ _ _ _ => True) (fun _ U o U' => ∃ v L, o = .returned v ∧ (Q_leqV1 Z wb wk zn wl sb sk h0 n0) v U'.heap L ∧ FrameEnd U o U' L ({ frames := 0, cells := 0, slots := 0, locals := 0 } : Room).cells ({ frames := 0, cells := 0, slots := 0, locals := 0 } : Room).slots) := by
  refine MetFree.of_bodySF (plainFor_of_name pn_2) hisR ?_
  intro p e s m args below meth c s₁ Bd hml0 hP hK
  obtain ⟨rfl, hZ, hh⟩ := hP
  have hx := Bd.exec
  have hby := Bd.bytes
  have hW := fun i d (h : tables_1[i]? = some d) => hw d (List.mem_of_getElem? h)
  have hlk : meth.locks = false := BodyLoose.notSynchronized Bd
  have hml : c.maxLocals = 3 := hml0
  have hown : s.vm.findClass "java/lang/StringLatin1" = some m.cls := findClass_of_methodNamed Bd.named
  have hnm := (name_of_methodNamed Bd.named Bd.method).1
  have X0 : Stand p l e ({ frames := 0, cells := 0, slots := 0, locals := 0 } : Room) s m #[(.ref wb), (.ref sb)] below meth c s₁ [] 0 0 := Stand.of_body Bd
  have e0 : s₁.heap = h0 := by rw [← hh, Bd.state]; rfl
  have N0 := Fr.nil n0
  show own_Go p e below s (Q_leqV1 Z wb wk zn wl sb sk h0 n0) ({ frames := 0, cells := 0, slots := 0, locals := 0 } : Room).cells ({ frames := 0, cells := 0, slots := 0, locals := 0 } : Room).slots s₁ (entryFrame m #[(.ref wb), (.ref sb)] 3)
  refine own_cast (g' := (mkF m 0 #[rv wb, rv sb, u_] [])) (ef_rm_leqV1 m wb sb) ?_
  by_cases hz : zn = (5 : Int32)
  · subst hz
    obtain ⟨c0, c1, c2, c3, c4, rfl⟩ := own_f5 hform
    refine own_s s₁ (mkF m 1 #[rv wb, rv sb, u_] [.ref wb]) (fun t k => XS.aloadN X0.here hx rfl (hb hby d16_0) rfl rfl k) ?_
    obtain ⟨cl1, Ar1, qa1, S1, M1, H1, U1⟩ := id F_1
    have ln1 := len_of S1 M1
    refine own_s s₁ (mkF m 2 #[rv wb, rv sb, u_] [.int 5]) (fun t k => X0.arraylength hx (cell := cl1) (by rw [e0]; exact Ar1.1) (State.isArrayOf_alike hZ.alike Ar1.2.1) (g := (mkF m 1 #[rv wb, rv sb, u_] [.ref wb])) rfl rfl (hb hby d16_1) t (by rw [ln1]; exact k)) ?_
    refine own_s s₁ (mkF m 3 #[rv wb, rv sb, u_] [.ref sb, .int 5]) (fun t k => XS.aloadN X0.here hx rfl (hb hby d16_2) rfl rfl k) ?_
    obtain ⟨cl2, Ar2, qa2, S2, M2, H2, U2⟩ := id F_0
    have ln2 := len_of S2 M2
    refine own_s s₁ (mkF m 4 #[rv wb, rv sb, u_] [.int 5, .int 5]) (fun t k => X0.arraylength hx (cell := cl2) (by rw [e0]; exact Ar2.1) (State.isArrayOf_alike hZ.alike Ar2.2.1) (g := (mkF m 3 #[rv wb, rv sb, u_] [.ref sb, .int 5])) rfl rfl (hb hby d16_3) t (by rw [ln2]; exact k)) ?_
    refine own_s s₁ (mkF m 7 #[rv wb, rv sb, u_] []) (fun t k => XS.icmpNo X0.here hx rfl (hb hby d16_4) rfl (teq (by decide : ((5 : Int32) = (5 : Int32)))).2 k) ?_
    refine own_s s₁ (mkF m 8 #[rv wb, rv sb, u_] [.int 0]) (fun t k => XS.iconst X0.here hx rfl (hb hby d16_7) k) ?_
    refine own_s s₁ (mkF m 9 #[rv wb, rv sb, iv 0] []) (fun t k => XS.istoreN X0.here hx rfl (hb hby d16_8) rfl (l' := #[rv wb, rv sb, iv 0]) rfl k) ?_
    refine own_s s₁ (mkF m 10 #[rv wb, rv sb, iv 0] [.int 0]) (fun t k => XS.iloadN X0.here hx rfl (hb hby d16_9) rfl k) ?_
    refine own_s s₁ (mkF m 11 #[rv wb, rv sb, iv 0] [.ref wb, .int 0]) (fun t k => XS.aloadN X0.here hx rfl (hb hby d16_10) rfl rfl k) ?_
    obtain ⟨cl3, Ar3, qa3, S3, M3, H3, U3⟩ := id F_1
    have ln3 := len_of S3 M3
    refine own_s s₁ (mkF m 12 #[rv wb, rv sb, iv 0] [.int 5, .int 0]) (fun t k => X0.arraylength hx (cell := cl3) (by rw [e0]; exact Ar3.1) (State.isArrayOf_alike hZ.alike Ar3.2.1) (g := (mkF m 11 #[rv wb, rv sb, iv 0] [.ref wb, .int 0])) rfl rfl (hb hby d16_11) t (by rw [ln3]; exact k)) ?_
    refine own_s s₁ (mkF m 15 #[rv wb, rv sb, iv 0] []) (fun t k => XS.icmpNo X0.here hx rfl (hb hby d16_12) rfl (tlt (by decide : ((0 : Int32) < (5 : Int32)))).2.1 k) ?_
    refine own_s s₁ (mkF m 16 #[rv wb, rv sb, iv 0] [.ref wb]) (fun t k => XS.aloadN X0.here hx rfl (hb hby d16_15) rfl rfl k) ?_
    refine own_s s₁ (mkF m 17 #[rv wb, rv sb, iv 0] [.int 0, .ref wb]) (fun t k => XS.iloadN X0.here hx rfl (hb hby d16_16) rfl k) ?_
    obtain ⟨cl4, Ar4, qa4, S4, M4, H4, U4⟩ := id F_1
    have hi4 := inb_of S4 (j := (0 : Int32)) ⟨by decide, by decide⟩
    have hat4 := H4.at hi4 (v := (.int c0)) rfl
    refine own_s s₁ (mkF m 18 #[rv wb, rv sb, iv 0] [.int c0]) (fun t k => X0.baloadBytes hx (j := (0 : Int32)) (v := (.int c0)) (by rw [e0]; exact Ar4.1) (State.isArrayOf_alike hZ.alike Ar4.2.1) Ar4.2.2 hi4 hat4 (g := (mkF m 17 #[rv wb, rv sb, iv 0] [.int 0, .ref wb])) rfl rfl (hb hby d16_17) t k) ?_
    refine own_s s₁ (mkF m 19 #[rv wb, rv sb, iv 0] [.ref sb, .int c0]) (fun t k => XS.aloadN X0.here hx rfl (hb hby d16_18) rfl rfl k) ?_
    refine own_s s₁ (mkF m 20 #[rv wb, rv sb, iv 0] [.int 0, .ref sb, .int c0]) (fun t k => XS.iloadN X0.here hx rfl (hb hby d16_19) rfl k) ?_
    obtain ⟨cl5, Ar5, qa5, S5, M5, H5, U5⟩ := id F_0
    have hi5 := inb_of S5 (j := (0 : Int32)) ⟨by decide, by decide⟩
    have hat5 := H5.at hi5 (v := (.int (118 : Int32))) rfl
    refine own_s s₁ (mkF m 21 #[rv wb, rv sb, iv 0] [.int 118, .int c0]) (fun t k => X0.baloadBytes hx (j := (0 : Int32)) (v := (.int (118 : Int32))) (by rw [e0]; exact Ar5.1) (State.isArrayOf_alike hZ.alike Ar5.2.1) Ar5.2.2 hi5 hat5 (g := (mkF m 20 #[rv wb, rv sb, iv 0] [.int 0, .ref sb, .int c0])) rfl rfl (hb hby d16_20) t k) ?_
    by_cases hq0 : c0 = (118 : Int32)
    · refine own_s s₁ (mkF m 26 #[rv wb, rv sb, iv 0] []) (fun t k => XS.icmpYes X0.here hx rfl (pc0 := 21) (pc' := 26) rfl (hb hby d16_21) rfl (teq hq0).1 (by decide) (by decide) k) ?_
      refine own_s s₁ (mkF m 29 #[rv wb, rv sb, iv 1] []) (fun t k => XS.iinc X0.here hx rfl (hb hby d16_26) rfl (l' := #[rv wb, rv sb, iv 1]) rfl k) ?_
      refine own_s s₁ (mkF m 9 #[rv wb, rv sb, iv 1] []) (fun t k => XS.goto X0.here hx rfl (pc0 := 29) (pc' := 9) rfl (hb hby d16_29) (by decide) (by decide) k) ?_
      refine own_s s₁ (mkF m 10 #[rv wb, rv sb, iv 1] [.int 1]) (fun t k => XS.iloadN X0.here hx rfl (hb hby d16_9) rfl k) ?_
      refine own_s s₁ (mkF m 11 #[rv wb, rv sb, iv 1] [.ref wb, .int 1]) (fun t k => XS.aloadN X0.here hx rfl (hb hby d16_10) rfl rfl k) ?_
      obtain ⟨cl6, Ar6, qa6, S6, M6, H6, U6⟩ := id F_1
      have ln6 := len_of S6 M6
      refine own_s s₁ (mkF m 12 #[rv wb, rv sb, iv 1] [.int 5, .int 1]) (fun t k => X0.arraylength hx (cell := cl6) (by rw [e0]; exact Ar6.1) (State.isArrayOf_alike hZ.alike Ar6.2.1) (g := (mkF m 11 #[rv wb, rv sb, iv 1] [.ref wb, .int 1])) rfl rfl (hb hby d16_11) t (by rw [ln6]; exact k)) ?_
      refine own_s s₁ (mkF m 15 #[rv wb, rv sb, iv 1] []) (fun t k => XS.icmpNo X0.here hx rfl (hb hby d16_12) rfl (tlt (by decide : ((1 : Int32) < (5 : Int32)))).2.1 k) ?_
      refine own_s s₁ (mkF m 16 #[rv wb, rv sb, iv 1] [.ref wb]) (fun t k => XS.aloadN X0.here hx rfl (hb hby d16_15) rfl rfl k) ?_
      refine own_s s₁ (mkF m 17 #[rv wb, rv sb, iv 1] [.int 1, .ref wb]) (fun t k => XS.iloadN X0.here hx rfl (hb hby d16_16) rfl k) ?_
      obtain ⟨cl7, Ar7, qa7, S7, M7, H7, U7⟩ := id F_1
      have hi7 := inb_of S7 (j := (1 : Int32)) ⟨by decide, by decide⟩
      have hat7 := H7.at hi7 (v := (.int c1)) rfl
      refine own_s s₁ (mkF m 18 #[rv wb, rv sb, iv 1] [.int c1]) (fun t k => X0.baloadBytes hx (j := (1 : Int32)) (v := (.int c1)) (by rw [e0]; exact Ar7.1) (State.isArrayOf_alike hZ.alike Ar7.2.1) Ar7.2.2 hi7 hat7 (g := (mkF m 17 #[rv wb, rv sb, iv 1] [.int 1, .ref wb])) rfl rfl (hb hby d16_17) t k) ?_
      refine own_s s₁ (mkF m 19 #[rv wb, rv sb, iv 1] [.ref sb, .int c1]) (fun t k => XS.aloadN X0.here hx rfl (hb hby d16_18) rfl rfl k) ?_
      refine own_s s₁ (mkF m 20 #[rv wb, rv sb, iv 1] [.int 1, .ref sb, .int c1]) (fun t k => XS.iloadN X0.here hx rfl (hb hby d16_19) rfl k) ?_
      obtain ⟨cl8, Ar8, qa8, S8, M8, H8, U8⟩ := id F_0
      have hi8 := inb_of S8 (j := (1 : Int32)) ⟨by decide, by decide⟩
      have hat8 := H8.at hi8 (v := (.int (97 : Int32))) rfl
      refine own_s s₁ (mkF m 21 #[rv wb, rv sb, iv 1] [.int 97, .int c1]) (fun t k => X0.baloadBytes hx (j := (1 : Int32)) (v := (.int (97 : Int32))) (by rw [e0]; exact Ar8.1) (State.isArrayOf_alike hZ.alike Ar8.2.1) Ar8.2.2 hi8 hat8 (g := (mkF m 20 #[rv wb, rv sb, iv 1] [.int 1, .ref sb, .int c1])) rfl rfl (hb hby d16_20) t k) ?_
      by_cases hq1 : c1 = (97 : Int32)
      · refine own_s s₁ (mkF m 26 #[rv wb, rv sb, iv 1] []) (fun t k => XS.icmpYes X0.here hx rfl (pc0 := 21) (pc' := 26) rfl (hb hby d16_21) rfl (teq hq1).1 (by decide) (by decide) k) ?_
        refine own_s s₁ (mkF m 29 #[rv wb, rv sb, iv 2] []) (fun t k => XS.iinc X0.here hx rfl (hb hby d16_26) rfl (l' := #[rv wb, rv sb, iv 2]) rfl k) ?_
        refine own_s s₁ (mkF m 9 #[rv wb, rv sb, iv 2] []) (fun t k => XS.goto X0.here hx rfl (pc0 := 29) (pc' := 9) rfl (hb hby d16_29) (by decide) (by decide) k) ?_
        refine own_s s₁ (mkF m 10 #[rv wb, rv sb, iv 2] [.int 2]) (fun t k => XS.iloadN X0.here hx rfl (hb hby d16_9) rfl k) ?_
        refine own_s s₁ (mkF m 11 #[rv wb, rv sb, iv 2] [.ref wb, .int 2]) (fun t k => XS.aloadN X0.here hx rfl (hb hby d16_10) rfl rfl k) ?_
        obtain ⟨cl9, Ar9, qa9, S9, M9, H9, U9⟩ := id F_1
        have ln9 := len_of S9 M9
        refine own_s s₁ (mkF m 12 #[rv wb, rv sb, iv 2] [.int 5, .int 2]) (fun t k => X0.arraylength hx (cell := cl9) (by rw [e0]; exact Ar9.1) (State.isArrayOf_alike hZ.alike Ar9.2.1) (g := (mkF m 11 #[rv wb, rv sb, iv 2] [.ref wb, .int 2])) rfl rfl (hb hby d16_11) t (by rw [ln9]; exact k)) ?_
        refine own_s s₁ (mkF m 15 #[rv wb, rv sb, iv 2] []) (fun t k => XS.icmpNo X0.here hx rfl (hb hby d16_12) rfl (tlt (by decide : ((2 : Int32) < (5 : Int32)))).2.1 k) ?_
        refine own_s s₁ (mkF m 16 #[rv wb, rv sb, iv 2] [.ref wb]) (fun t k => XS.aloadN X0.here hx rfl (hb hby d16_15) rfl rfl k) ?_
        refine own_s s₁ (mkF m 17 #[rv wb, rv sb, iv 2] [.int 2, .ref wb]) (fun t k => XS.iloadN X0.here hx rfl (hb hby d16_16) rfl k) ?_
        obtain ⟨cl10, Ar10, qa10, S10, M10, H10, U10⟩ := id F_1
        have hi10 := inb_of S10 (j := (2 : Int32)) ⟨by decide, by decide⟩
        have hat10 := H10.at hi10 (v := (.int c2)) rfl
        refine own_s s₁ (mkF m 18 #[rv wb, rv sb, iv 2] [.int c2]) (fun t k => X0.baloadBytes hx (j := (2 : Int32)) (v := (.int c2)) (by rw [e0]; exact Ar10.1) (State.isArrayOf_alike hZ.alike Ar10.2.1) Ar10.2.2 hi10 hat10 (g := (mkF m 17 #[rv wb, rv sb, iv 2] [.int 2, .ref wb])) rfl rfl (hb hby d16_17) t k) ?_
        refine own_s s₁ (mkF m 19 #[rv wb, rv sb, iv 2] [.ref sb, .int c2]) (fun t k => XS.aloadN X0.here hx rfl (hb hby d16_18) rfl rfl k) ?_
        refine own_s s₁ (mkF m 20 #[rv wb, rv sb, iv 2] [.int 2, .ref sb, .int c2]) (fun t k => XS.iloadN X0.here hx rfl (hb hby d16_19) rfl k) ?_
        obtain ⟨cl11, Ar11, qa11, S11, M11, H11, U11⟩ := id F_0
        have hi11 := inb_of S11 (j := (2 : Int32)) ⟨by decide, by decide⟩
        have hat11 := H11.at hi11 (v := (.int (108 : Int32))) rfl
        refine own_s s₁ (mkF m 21 #[rv wb, rv sb, iv 2] [.int 108, .int c2]) (fun t k => X0.baloadBytes hx (j := (2 : Int32)) (v := (.int (108 : Int32))) (by rw [e0]; exact Ar11.1) (State.isArrayOf_alike hZ.alike Ar11.2.1) Ar11.2.2 hi11 hat11 (g := (mkF m 20 #[rv wb, rv sb, iv 2] [.int 2, .ref sb, .int c2])) rfl rfl (hb hby d16_20) t k) ?_
        by_cases hq2 : c2 = (108 : Int32)
        · refine own_s s₁ (mkF m 26 #[rv wb, rv sb, iv 2] []) (fun t k => XS.icmpYes X0.here hx rfl (pc0 := 21) (pc' := 26) rfl (hb hby d16_21) rfl (teq hq2).1 (by decide) (by decide) k) ?_
          refine own_s s₁ (mkF m 29 #[rv wb, rv sb, iv 3] []) (fun t k => XS.iinc X0.here hx rfl (hb hby d16_26) rfl (l' := #[rv wb, rv sb, iv 3]) rfl k) ?_
          refine own_s s₁ (mkF m 9 #[rv wb, rv sb, iv 3] []) (fun t k => XS.goto X0.here hx rfl (pc0 := 29) (pc' := 9) rfl (hb hby d16_29) (by decide) (by decide) k) ?_
          refine own_s s₁ (mkF m 10 #[rv wb, rv sb, iv 3] [.int 3]) (fun t k => XS.iloadN X0.here hx rfl (hb hby d16_9) rfl k) ?_
          refine own_s s₁ (mkF m 11 #[rv wb, rv sb, iv 3] [.ref wb, .int 3]) (fun t k => XS.aloadN X0.here hx rfl (hb hby d16_10) rfl rfl k) ?_
          obtain ⟨cl12, Ar12, qa12, S12, M12, H12, U12⟩ := id F_1
          have ln12 := len_of S12 M12
          refine own_s s₁ (mkF m 12 #[rv wb, rv sb, iv 3] [.int 5, .int 3]) (fun t k => X0.arraylength hx (cell := cl12) (by rw [e0]; exact Ar12.1) (State.isArrayOf_alike hZ.alike Ar12.2.1) (g := (mkF m 11 #[rv wb, rv sb, iv 3] [.ref wb, .int 3])) rfl rfl (hb hby d16_11) t (by rw [ln12]; exact k)) ?_
          refine own_s s₁ (mkF m 15 #[rv wb, rv sb, iv 3] []) (fun t k => XS.icmpNo X0.here hx rfl (hb hby d16_12) rfl (tlt (by decide : ((3 : Int32) < (5 : Int32)))).2.1 k) ?_
          refine own_s s₁ (mkF m 16 #[rv wb, rv sb, iv 3] [.ref wb]) (fun t k => XS.aloadN X0.here hx rfl (hb hby d16_15) rfl rfl k) ?_
          refine own_s s₁ (mkF m 17 #[rv wb, rv sb, iv 3] [.int 3, .ref wb]) (fun t k => XS.iloadN X0.here hx rfl (hb hby d16_16) rfl k) ?_
          obtain ⟨cl13, Ar13, qa13, S13, M13, H13, U13⟩ := id F_1
          have hi13 := inb_of S13 (j := (3 : Int32)) ⟨by decide, by decide⟩
          have hat13 := H13.at hi13 (v := (.int c3)) rfl
          refine own_s s₁ (mkF m 18 #[rv wb, rv sb, iv 3] [.int c3]) (fun t k => X0.baloadBytes hx (j := (3 : Int32)) (v := (.int c3)) (by rw [e0]; exact Ar13.1) (State.isArrayOf_alike hZ.alike Ar13.2.1) Ar13.2.2 hi13 hat13 (g := (mkF m 17 #[rv wb, rv sb, iv 3] [.int 3, .ref wb])) rfl rfl (hb hby d16_17) t k) ?_
          refine own_s s₁ (mkF m 19 #[rv wb, rv sb, iv 3] [.ref sb, .int c3]) (fun t k => XS.aloadN X0.here hx rfl (hb hby d16_18) rfl rfl k) ?_
          refine own_s s₁ (mkF m 20 #[rv wb, rv sb, iv 3] [.int 3, .ref sb, .int c3]) (fun t k => XS.iloadN X0.here hx rfl (hb hby d16_19) rfl k) ?_
          obtain ⟨cl14, Ar14, qa14, S14, M14, H14, U14⟩ := id F_0
          have hi14 := inb_of S14 (j := (3 : Int32)) ⟨by decide, by decide⟩
          have hat14 := H14.at hi14 (v := (.int (105 : Int32))) rfl
          refine own_s s₁ (mkF m 21 #[rv wb, rv sb, iv 3] [.int 105, .int c3]) (fun t k => X0.baloadBytes hx (j := (3 : Int32)) (v := (.int (105 : Int32))) (by rw [e0]; exact Ar14.1) (State.isArrayOf_alike hZ.alike Ar14.2.1) Ar14.2.2 hi14 hat14 (g := (mkF m 20 #[rv wb, rv sb, iv 3] [.int 3, .ref sb, .int c3])) rfl rfl (hb hby d16_20) t k) ?_
          by_cases hq3 : c3 = (105 : Int32)
          · refine own_s s₁ (mkF m 26 #[rv wb, rv sb, iv 3] []) (fun t k => XS.icmpYes X0.here hx rfl (pc0 := 21) (pc' := 26) rfl (hb hby d16_21) rfl (teq hq3).1 (by decide) (by decide) k) ?_
            refine own_s s₁ (mkF m 29 #[rv wb, rv sb, iv 4] []) (fun t k => XS.iinc X0.here hx rfl (hb hby d16_26) rfl (l' := #[rv wb, rv sb, iv 4]) rfl k) ?_
            refine own_s s₁ (mkF m 9 #[rv wb, rv sb, iv 4] []) (fun t k => XS.goto X0.here hx rfl (pc0 := 29) (pc' := 9) rfl (hb hby d16_29) (by decide) (by decide) k) ?_
            refine own_s s₁ (mkF m 10 #[rv wb, rv sb, iv 4] [.int 4]) (fun t k => XS.iloadN X0.here hx rfl (hb hby d16_9) rfl k) ?_
            refine own_s s₁ (mkF m 11 #[rv wb, rv sb, iv 4] [.ref wb, .int 4]) (fun t k => XS.aloadN X0.here hx rfl (hb hby d16_10) rfl rfl k) ?_
            obtain ⟨cl15, Ar15, qa15, S15, M15, H15, U15⟩ := id F_1
            have ln15 := len_of S15 M15
            refine own_s s₁ (mkF m 12 #[rv wb, rv sb, iv 4] [.int 5, .int 4]) (fun t k => X0.arraylength hx (cell := cl15) (by rw [e0]; exact Ar15.1) (State.isArrayOf_alike hZ.alike Ar15.2.1) (g := (mkF m 11 #[rv wb, rv sb, iv 4] [.ref wb, .int 4])) rfl rfl (hb hby d16_11) t (by rw [ln15]; exact k)) ?_
            refine own_s s₁ (mkF m 15 #[rv wb, rv sb, iv 4] []) (fun t k => XS.icmpNo X0.here hx rfl (hb hby d16_12) rfl (tlt (by decide : ((4 : Int32) < (5 : Int32)))).2.1 k) ?_
            refine own_s s₁ (mkF m 16 #[rv wb, rv sb, iv 4] [.ref wb]) (fun t k => XS.aloadN X0.here hx rfl (hb hby d16_15) rfl rfl k) ?_
            refine own_s s₁ (mkF m 17 #[rv wb, rv sb, iv 4] [.int 4, .ref wb]) (fun t k => XS.iloadN X0.here hx rfl (hb hby d16_16) rfl k) ?_
            obtain ⟨cl16, Ar16, qa16, S16, M16, H16, U16⟩ := id F_1
            have hi16 := inb_of S16 (j := (4 : Int32)) ⟨by decide, by decide⟩
            have hat16 := H16.at hi16 (v := (.int c4)) rfl
            refine own_s s₁ (mkF m 18 #[rv wb, rv sb, iv 4] [.int c4]) (fun t k => X0.baloadBytes hx (j := (4 : Int32)) (v := (.int c4)) (by rw [e0]; exact Ar16.1) (State.isArrayOf_alike hZ.alike Ar16.2.1) Ar16.2.2 hi16 hat16 (g := (mkF m 17 #[rv wb, rv sb, iv 4] [.int 4, .ref wb])) rfl rfl (hb hby d16_17) t k) ?_
            refine own_s s₁ (mkF m 19 #[rv wb, rv sb, iv 4] [.ref sb, .int c4]) (fun t k => XS.aloadN X0.here hx rfl (hb hby d16_18) rfl rfl k) ?_
            refine own_s s₁ (mkF m 20 #[rv wb, rv sb, iv 4] [.int 4, .ref sb, .int c4]) (fun t k => XS.iloadN X0.here hx rfl (hb hby d16_19) rfl k) ?_
            obtain ⟨cl17, Ar17, qa17, S17, M17, H17, U17⟩ := id F_0
            have hi17 := inb_of S17 (j := (4 : Int32)) ⟨by decide, by decide⟩
            have hat17 := H17.at hi17 (v := (.int (100 : Int32))) rfl
            refine own_s s₁ (mkF m 21 #[rv wb, rv sb, iv 4] [.int 100, .int c4]) (fun t k => X0.baloadBytes hx (j := (4 : Int32)) (v := (.int (100 : Int32))) (by rw [e0]; exact Ar17.1) (State.isArrayOf_alike hZ.alike Ar17.2.1) Ar17.2.2 hi17 hat17 (g := (mkF m 20 #[rv wb, rv sb, iv 4] [.int 4, .ref sb, .int c4])) rfl rfl (hb hby d16_20) t k) ?_
            by_cases hq4 : c4 = (100 : Int32)
            · refine own_s s₁ (mkF m 26 #[rv wb, rv sb, iv 4] []) (fun t k => XS.icmpYes X0.here hx rfl (pc0 := 21) (pc' := 26) rfl (hb hby d16_21) rfl (teq hq4).1 (by decide) (by decide) k) ?_
              refine own_s s₁ (mkF m 29 #[rv wb, rv sb, iv 5] []) (fun t k => XS.iinc X0.here hx rfl (hb hby d16_26) rfl (l' := #[rv wb, rv sb, iv 5]) rfl k) ?_
              refine own_s s₁ (mkF m 9 #[rv wb, rv sb, iv 5] []) (fun t k => XS.goto X0.here hx rfl (pc0 := 29) (pc' := 9) rfl (hb hby d16_29) (by decide) (by decide) k) ?_
              refine own_s s₁ (mkF m 10 #[rv wb, rv sb, iv 5] [.int 5]) (fun t k => XS.iloadN X0.here hx rfl (hb hby d16_9) rfl k) ?_
              refine own_s s₁ (mkF m 11 #[rv wb, rv sb, iv 5] [.ref wb, .int 5]) (fun t k => XS.aloadN X0.here hx rfl (hb hby d16_10) rfl rfl k) ?_
              obtain ⟨cl18, Ar18, qa18, S18, M18, H18, U18⟩ := id F_1
              have ln18 := len_of S18 M18
              refine own_s s₁ (mkF m 12 #[rv wb, rv sb, iv 5] [.int 5, .int 5]) (fun t k => X0.arraylength hx (cell := cl18) (by rw [e0]; exact Ar18.1) (State.isArrayOf_alike hZ.alike Ar18.2.1) (g := (mkF m 11 #[rv wb, rv sb, iv 5] [.ref wb, .int 5])) rfl rfl (hb hby d16_11) t (by rw [ln18]; exact k)) ?_
              refine own_s s₁ (mkF m 32 #[rv wb, rv sb, iv 5] []) (fun t k => XS.icmpYes X0.here hx rfl (pc0 := 12) (pc' := 32) rfl (hb hby d16_12) rfl (flt (by decide : ¬ ((5 : Int32) < (5 : Int32)))).2.1 (by decide) (by decide) k) ?_
              refine own_s s₁ (mkF m 33 #[rv wb, rv sb, iv 5] [.int 1]) (fun t k => XS.iconst X0.here hx rfl (hb hby d16_32) k) ?_
              refine own_rN X0 hx hlk Bd.returns (by simp) (hb hby d16_33) ?_ (by decide) (by decide)
              rw [e0]
              exact ⟨congrArg (fun z => some (Value.int z)) (Eq.symm (own_bT (by first | (rw [hq0, hq1, hq2, hq3, hq4]; done) | (rw [hq0, hq1, hq2, hq3, hq4]; rfl)))), N0, rfl⟩
            · refine own_s s₁ (mkF m 24 #[rv wb, rv sb, iv 4] []) (fun t k => XS.icmpNo X0.here hx rfl (hb hby d16_21) rfl (feq hq4).1 k) ?_
              refine own_s s₁ (mkF m 25 #[rv wb, rv sb, iv 4] [.int 0]) (fun t k => XS.iconst X0.here hx rfl (hb hby d16_24) k) ?_
              refine own_rN X0 hx hlk Bd.returns (by simp) (hb hby d16_25) ?_ (by decide) (by decide)
              rw [e0]
              exact ⟨congrArg (fun z => some (Value.int z)) (Eq.symm (own_bF (fun q => hq4 (by simp only [own_LV, List.cons.injEq, Value.int.injEq] at q; exact q.2.2.2.2.1)))), N0, rfl⟩
          · refine own_s s₁ (mkF m 24 #[rv wb, rv sb, iv 3] []) (fun t k => XS.icmpNo X0.here hx rfl (hb hby d16_21) rfl (feq hq3).1 k) ?_
            refine own_s s₁ (mkF m 25 #[rv wb, rv sb, iv 3] [.int 0]) (fun t k => XS.iconst X0.here hx rfl (hb hby d16_24) k) ?_
            refine own_rN X0 hx hlk Bd.returns (by simp) (hb hby d16_25) ?_ (by decide) (by decide)
            rw [e0]
            exact ⟨congrArg (fun z => some (Value.int z)) (Eq.symm (own_bF (fun q => hq3 (by simp only [own_LV, List.cons.injEq, Value.int.injEq] at q; exact q.2.2.2.1)))), N0, rfl⟩
        · refine own_s s₁ (mkF m 24 #[rv wb, rv sb, iv 2] []) (fun t k => XS.icmpNo X0.here hx rfl (hb hby d16_21) rfl (feq hq2).1 k) ?_
          refine own_s s₁ (mkF m 25 #[rv wb, rv sb, iv 2] [.int 0]) (fun t k => XS.iconst X0.here hx rfl (hb hby d16_24) k) ?_
          refine own_rN X0 hx hlk Bd.returns (by simp) (hb hby d16_25) ?_ (by decide) (by decide)
          rw [e0]
          exact ⟨congrArg (fun z => some (Value.int z)) (Eq.symm (own_bF (fun q => hq2 (by simp only [own_LV, List.cons.injEq, Value.int.injEq] at q; exact q.2.2.1)))), N0, rfl⟩
      · refine own_s s₁ (mkF m 24 #[rv wb, rv sb, iv 1] []) (fun t k => XS.icmpNo X0.here hx rfl (hb hby d16_21) rfl (feq hq1).1 k) ?_
        refine own_s s₁ (mkF m 25 #[rv wb, rv sb, iv 1] [.int 0]) (fun t k => XS.iconst X0.here hx rfl (hb hby d16_24) k) ?_
        refine own_rN X0 hx hlk Bd.returns (by simp) (hb hby d16_25) ?_ (by decide) (by decide)
        rw [e0]
        exact ⟨congrArg (fun z => some (Value.int z)) (Eq.symm (own_bF (fun q => hq1 (by simp only [own_LV, List.cons.injEq, Value.int.injEq] at q; exact q.2.1)))), N0, rfl⟩
    · refine own_s s₁ (mkF m 24 #[rv wb, rv sb, iv 0] []) (fun t k => XS.icmpNo X0.here hx rfl (hb hby d16_21) rfl (feq hq0).1 k) ?_
      refine own_s s₁ (mkF m 25 #[rv wb, rv sb, iv 0] [.int 0]) (fun t k => XS.iconst X0.here hx rfl (hb hby d16_24) k) ?_
      refine own_rN X0 hx hlk Bd.returns (by simp) (hb hby d16_25) ?_ (by decide) (by decide)
      rw [e0]
      exact ⟨congrArg (fun z => some (Value.int z)) (Eq.symm (own_bF (fun q => hq0 (by simp only [own_LV, List.cons.injEq, Value.int.injEq] at q; exact q.1)))), N0, rfl⟩
  · refine own_s s₁ (mkF m 1 #[rv wb, rv sb, u_] [.ref wb]) (fun t k => XS.aloadN X0.here hx rfl (hb hby d16_0) rfl rfl k) ?_
    obtain ⟨cl19, Ar19, qa19, S19, M19, H19, U19⟩ := id F_1
    have ln19 := len_of S19 M19
    refine own_s s₁ (mkF m 2 #[rv wb, rv sb, u_] [.int zn]) (fun t k => X0.arraylength hx (cell := cl19) (by rw [e0]; exact Ar19.1) (State.isArrayOf_alike hZ.alike Ar19.2.1) (g := (mkF m 1 #[rv wb, rv sb, u_] [.ref wb])) rfl rfl (hb hby d16_1) t (by rw [ln19]; exact k)) ?_
    refine own_s s₁ (mkF m 3 #[rv wb, rv sb, u_] [.ref sb, .int zn]) (fun t k => XS.aloadN X0.here hx rfl (hb hby d16_2) rfl rfl k) ?_
    obtain ⟨cl20, Ar20, qa20, S20, M20, H20, U20⟩ := id F_0
    have ln20 := len_of S20 M20
    refine own_s s₁ (mkF m 4 #[rv wb, rv sb, u_] [.int 5, .int zn]) (fun t k => X0.arraylength hx (cell := cl20) (by rw [e0]; exact Ar20.1) (State.isArrayOf_alike hZ.alike Ar20.2.1) (g := (mkF m 3 #[rv wb, rv sb, u_] [.ref sb, .int zn])) rfl rfl (hb hby d16_3) t (by rw [ln20]; exact k)) ?_
    refine own_s s₁ (mkF m 34 #[rv wb, rv sb, u_] []) (fun t k => XS.icmpYes X0.here hx rfl (pc0 := 4) (pc' := 34) rfl (hb hby d16_4) rfl (feq hz).2 (by decide) (by decide) k) ?_
    refine own_s s₁ (mkF m 35 #[rv wb, rv sb, u_] [.int 0]) (fun t k => XS.iconst X0.here hx rfl (hb hby d16_34) k) ?_
    refine own_rN X0 hx hlk Bd.returns (by simp) (hb hby d16_35) ?_ (by decide) (by decide)
    rw [e0]
    exact ⟨congrArg (fun z => some (Value.int z)) (Eq.symm (own_bL (fun q => hz ((own_fT hform).1 q)))), N0, rfl⟩
def Q_leqV0 (Z : State) (wb : Addr) (wk : ClassId) (zn : Int32) (wl : List Value) (sb : Addr) (sk : ClassId) (h0 : Heap) (n0 : Nat) (v : Option Value) (h : Heap) (L : List Loc) : Prop := v = some (.int (own_beq wl own_LV)) ∧ Fr n0 L ∧ h = h0
theorem ef_rm_leqV0 (m : MethodId) (x0 : Addr) (x1 : Addr) : entryFrame m #[(.ref x0), (.ref x1)] 3 = mkF m 0 #[.val (.ref x0), .val (.ref x1), .unset] [] := by first | (simp [entryFrame, mkF, argsToLocals, Value.category]; done) | rfl | (simp [entryFrame, mkF, argsToLocals, Value.category] <;> rfl)
set_option maxRecDepth 65536 in
set_option maxHeartbeats 40000000 in
theorem rm_leqV0 (l : Launch) (Z : State) (a0 : Array Value) (hw : ∀ d ∈ tables_1, d.before a0 Z = true) (ws : List Jvm.Cond) (wb : Addr) (wk : ClassId) (zn : Int32) (wl : List Value) (sb : Addr) (sk : ClassId) (h0 : Heap) (n0 : Nat) (Z0 : n0 ≤ h0.size) (F_0 : Arv Z h0 sb sk .byte (5 : Int32) [(.int (118 : Int32)), (.int (97 : Int32)), (.int (108 : Int32)), (.int (105 : Int32)), (.int (100 : Int32))] (.int (0 : Int32))) (F_1 : Arv Z h0 wb wk .byte zn wl (.int (0 : Int32))) (hform : own_form zn wl) :
    MetFree l (⟨"java/lang/StringLatin1", "equals", "([B[B)Z"⟩ : MethodName) (head1 (Jvm.Cond.code (⟨"java/lang/StringLatin1", "equals", "([B[B)Z"⟩ : MethodName) jdk_43_method_13_code 3 (some (.boolean)) :: ws) ({ frames := 0, cells := 0, slots := 0, locals := 0 } : Room)) (fun a U => a = #[(.ref sb), (.ref wb)] ∧ Z.Warmed39 U.vm ∧ U.heap = h0) (fun _ _ _ _ _ => True) (fun _ U o U' => ∃ v L, o = .returned v ∧ (Q_leqV0 Z wb wk zn wl sb sk h0 n0) v U'.heap L ∧ FrameEnd U o U' L ({ frames := 0, cells := 0, slots := 0, locals := 0 } : Room).cells ({ frames := 0, cells := 0, slots := 0, locals := 0 } : Room).slots) := by
  refine MetFree.of_bodySF (plainFor_of_name pn_2) hisR ?_
  intro p e s m args below meth c s₁ Bd hml0 hP hK
  obtain ⟨rfl, hZ, hh⟩ := hP
  have hx := Bd.exec
  have hby := Bd.bytes
  have hW := fun i d (h : tables_1[i]? = some d) => hw d (List.mem_of_getElem? h)
  have hlk : meth.locks = false := BodyLoose.notSynchronized Bd
  have hml : c.maxLocals = 3 := hml0
  have hown : s.vm.findClass "java/lang/StringLatin1" = some m.cls := findClass_of_methodNamed Bd.named
  have hnm := (name_of_methodNamed Bd.named Bd.method).1
  have X0 : Stand p l e ({ frames := 0, cells := 0, slots := 0, locals := 0 } : Room) s m #[(.ref sb), (.ref wb)] below meth c s₁ [] 0 0 := Stand.of_body Bd
  have e0 : s₁.heap = h0 := by rw [← hh, Bd.state]; rfl
  have N0 := Fr.nil n0
  show own_Go p e below s (Q_leqV0 Z wb wk zn wl sb sk h0 n0) ({ frames := 0, cells := 0, slots := 0, locals := 0 } : Room).cells ({ frames := 0, cells := 0, slots := 0, locals := 0 } : Room).slots s₁ (entryFrame m #[(.ref sb), (.ref wb)] 3)
  refine own_cast (g' := (mkF m 0 #[rv sb, rv wb, u_] [])) (ef_rm_leqV0 m sb wb) ?_
  by_cases hz : zn = (5 : Int32)
  · subst hz
    obtain ⟨c0, c1, c2, c3, c4, rfl⟩ := own_f5 hform
    refine own_s s₁ (mkF m 1 #[rv sb, rv wb, u_] [.ref sb]) (fun t k => XS.aloadN X0.here hx rfl (hb hby d16_0) rfl rfl k) ?_
    obtain ⟨cl1, Ar1, qa1, S1, M1, H1, U1⟩ := id F_0
    have ln1 := len_of S1 M1
    refine own_s s₁ (mkF m 2 #[rv sb, rv wb, u_] [.int 5]) (fun t k => X0.arraylength hx (cell := cl1) (by rw [e0]; exact Ar1.1) (State.isArrayOf_alike hZ.alike Ar1.2.1) (g := (mkF m 1 #[rv sb, rv wb, u_] [.ref sb])) rfl rfl (hb hby d16_1) t (by rw [ln1]; exact k)) ?_
    refine own_s s₁ (mkF m 3 #[rv sb, rv wb, u_] [.ref wb, .int 5]) (fun t k => XS.aloadN X0.here hx rfl (hb hby d16_2) rfl rfl k) ?_
    obtain ⟨cl2, Ar2, qa2, S2, M2, H2, U2⟩ := id F_1
    have ln2 := len_of S2 M2
    refine own_s s₁ (mkF m 4 #[rv sb, rv wb, u_] [.int 5, .int 5]) (fun t k => X0.arraylength hx (cell := cl2) (by rw [e0]; exact Ar2.1) (State.isArrayOf_alike hZ.alike Ar2.2.1) (g := (mkF m 3 #[rv sb, rv wb, u_] [.ref wb, .int 5])) rfl rfl (hb hby d16_3) t (by rw [ln2]; exact k)) ?_
    refine own_s s₁ (mkF m 7 #[rv sb, rv wb, u_] []) (fun t k => XS.icmpNo X0.here hx rfl (hb hby d16_4) rfl (teq (by decide : ((5 : Int32) = (5 : Int32)))).2 k) ?_
    refine own_s s₁ (mkF m 8 #[rv sb, rv wb, u_] [.int 0]) (fun t k => XS.iconst X0.here hx rfl (hb hby d16_7) k) ?_
    refine own_s s₁ (mkF m 9 #[rv sb, rv wb, iv 0] []) (fun t k => XS.istoreN X0.here hx rfl (hb hby d16_8) rfl (l' := #[rv sb, rv wb, iv 0]) rfl k) ?_
    refine own_s s₁ (mkF m 10 #[rv sb, rv wb, iv 0] [.int 0]) (fun t k => XS.iloadN X0.here hx rfl (hb hby d16_9) rfl k) ?_
    refine own_s s₁ (mkF m 11 #[rv sb, rv wb, iv 0] [.ref sb, .int 0]) (fun t k => XS.aloadN X0.here hx rfl (hb hby d16_10) rfl rfl k) ?_
    obtain ⟨cl3, Ar3, qa3, S3, M3, H3, U3⟩ := id F_0
    have ln3 := len_of S3 M3
    refine own_s s₁ (mkF m 12 #[rv sb, rv wb, iv 0] [.int 5, .int 0]) (fun t k => X0.arraylength hx (cell := cl3) (by rw [e0]; exact Ar3.1) (State.isArrayOf_alike hZ.alike Ar3.2.1) (g := (mkF m 11 #[rv sb, rv wb, iv 0] [.ref sb, .int 0])) rfl rfl (hb hby d16_11) t (by rw [ln3]; exact k)) ?_
    refine own_s s₁ (mkF m 15 #[rv sb, rv wb, iv 0] []) (fun t k => XS.icmpNo X0.here hx rfl (hb hby d16_12) rfl (tlt (by decide : ((0 : Int32) < (5 : Int32)))).2.1 k) ?_
    refine own_s s₁ (mkF m 16 #[rv sb, rv wb, iv 0] [.ref sb]) (fun t k => XS.aloadN X0.here hx rfl (hb hby d16_15) rfl rfl k) ?_
    refine own_s s₁ (mkF m 17 #[rv sb, rv wb, iv 0] [.int 0, .ref sb]) (fun t k => XS.iloadN X0.here hx rfl (hb hby d16_16) rfl k) ?_
    obtain ⟨cl4, Ar4, qa4, S4, M4, H4, U4⟩ := id F_0
    have hi4 := inb_of S4 (j := (0 : Int32)) ⟨by decide, by decide⟩
    have hat4 := H4.at hi4 (v := (.int (118 : Int32))) rfl
    refine own_s s₁ (mkF m 18 #[rv sb, rv wb, iv 0] [.int 118]) (fun t k => X0.baloadBytes hx (j := (0 : Int32)) (v := (.int (118 : Int32))) (by rw [e0]; exact Ar4.1) (State.isArrayOf_alike hZ.alike Ar4.2.1) Ar4.2.2 hi4 hat4 (g := (mkF m 17 #[rv sb, rv wb, iv 0] [.int 0, .ref sb])) rfl rfl (hb hby d16_17) t k) ?_
    refine own_s s₁ (mkF m 19 #[rv sb, rv wb, iv 0] [.ref wb, .int 118]) (fun t k => XS.aloadN X0.here hx rfl (hb hby d16_18) rfl rfl k) ?_
    refine own_s s₁ (mkF m 20 #[rv sb, rv wb, iv 0] [.int 0, .ref wb, .int 118]) (fun t k => XS.iloadN X0.here hx rfl (hb hby d16_19) rfl k) ?_
    obtain ⟨cl5, Ar5, qa5, S5, M5, H5, U5⟩ := id F_1
    have hi5 := inb_of S5 (j := (0 : Int32)) ⟨by decide, by decide⟩
    have hat5 := H5.at hi5 (v := (.int c0)) rfl
    refine own_s s₁ (mkF m 21 #[rv sb, rv wb, iv 0] [.int c0, .int 118]) (fun t k => X0.baloadBytes hx (j := (0 : Int32)) (v := (.int c0)) (by rw [e0]; exact Ar5.1) (State.isArrayOf_alike hZ.alike Ar5.2.1) Ar5.2.2 hi5 hat5 (g := (mkF m 20 #[rv sb, rv wb, iv 0] [.int 0, .ref wb, .int 118])) rfl rfl (hb hby d16_20) t k) ?_
    by_cases hq0 : (118 : Int32) = c0
    · refine own_s s₁ (mkF m 26 #[rv sb, rv wb, iv 0] []) (fun t k => XS.icmpYes X0.here hx rfl (pc0 := 21) (pc' := 26) rfl (hb hby d16_21) rfl (teq hq0).1 (by decide) (by decide) k) ?_
      refine own_s s₁ (mkF m 29 #[rv sb, rv wb, iv 1] []) (fun t k => XS.iinc X0.here hx rfl (hb hby d16_26) rfl (l' := #[rv sb, rv wb, iv 1]) rfl k) ?_
      refine own_s s₁ (mkF m 9 #[rv sb, rv wb, iv 1] []) (fun t k => XS.goto X0.here hx rfl (pc0 := 29) (pc' := 9) rfl (hb hby d16_29) (by decide) (by decide) k) ?_
      refine own_s s₁ (mkF m 10 #[rv sb, rv wb, iv 1] [.int 1]) (fun t k => XS.iloadN X0.here hx rfl (hb hby d16_9) rfl k) ?_
      refine own_s s₁ (mkF m 11 #[rv sb, rv wb, iv 1] [.ref sb, .int 1]) (fun t k => XS.aloadN X0.here hx rfl (hb hby d16_10) rfl rfl k) ?_
      obtain ⟨cl6, Ar6, qa6, S6, M6, H6, U6⟩ := id F_0
      have ln6 := len_of S6 M6
      refine own_s s₁ (mkF m 12 #[rv sb, rv wb, iv 1] [.int 5, .int 1]) (fun t k => X0.arraylength hx (cell := cl6) (by rw [e0]; exact Ar6.1) (State.isArrayOf_alike hZ.alike Ar6.2.1) (g := (mkF m 11 #[rv sb, rv wb, iv 1] [.ref sb, .int 1])) rfl rfl (hb hby d16_11) t (by rw [ln6]; exact k)) ?_
      refine own_s s₁ (mkF m 15 #[rv sb, rv wb, iv 1] []) (fun t k => XS.icmpNo X0.here hx rfl (hb hby d16_12) rfl (tlt (by decide : ((1 : Int32) < (5 : Int32)))).2.1 k) ?_
      refine own_s s₁ (mkF m 16 #[rv sb, rv wb, iv 1] [.ref sb]) (fun t k => XS.aloadN X0.here hx rfl (hb hby d16_15) rfl rfl k) ?_
      refine own_s s₁ (mkF m 17 #[rv sb, rv wb, iv 1] [.int 1, .ref sb]) (fun t k => XS.iloadN X0.here hx rfl (hb hby d16_16) rfl k) ?_
      obtain ⟨cl7, Ar7, qa7, S7, M7, H7, U7⟩ := id F_0
      have hi7 := inb_of S7 (j := (1 : Int32)) ⟨by decide, by decide⟩
      have hat7 := H7.at hi7 (v := (.int (97 : Int32))) rfl
      refine own_s s₁ (mkF m 18 #[rv sb, rv wb, iv 1] [.int 97]) (fun t k => X0.baloadBytes hx (j := (1 : Int32)) (v := (.int (97 : Int32))) (by rw [e0]; exact Ar7.1) (State.isArrayOf_alike hZ.alike Ar7.2.1) Ar7.2.2 hi7 hat7 (g := (mkF m 17 #[rv sb, rv wb, iv 1] [.int 1, .ref sb])) rfl rfl (hb hby d16_17) t k) ?_
      refine own_s s₁ (mkF m 19 #[rv sb, rv wb, iv 1] [.ref wb, .int 97]) (fun t k => XS.aloadN X0.here hx rfl (hb hby d16_18) rfl rfl k) ?_
      refine own_s s₁ (mkF m 20 #[rv sb, rv wb, iv 1] [.int 1, .ref wb, .int 97]) (fun t k => XS.iloadN X0.here hx rfl (hb hby d16_19) rfl k) ?_
      obtain ⟨cl8, Ar8, qa8, S8, M8, H8, U8⟩ := id F_1
      have hi8 := inb_of S8 (j := (1 : Int32)) ⟨by decide, by decide⟩
      have hat8 := H8.at hi8 (v := (.int c1)) rfl
      refine own_s s₁ (mkF m 21 #[rv sb, rv wb, iv 1] [.int c1, .int 97]) (fun t k => X0.baloadBytes hx (j := (1 : Int32)) (v := (.int c1)) (by rw [e0]; exact Ar8.1) (State.isArrayOf_alike hZ.alike Ar8.2.1) Ar8.2.2 hi8 hat8 (g := (mkF m 20 #[rv sb, rv wb, iv 1] [.int 1, .ref wb, .int 97])) rfl rfl (hb hby d16_20) t k) ?_
      by_cases hq1 : (97 : Int32) = c1
      · refine own_s s₁ (mkF m 26 #[rv sb, rv wb, iv 1] []) (fun t k => XS.icmpYes X0.here hx rfl (pc0 := 21) (pc' := 26) rfl (hb hby d16_21) rfl (teq hq1).1 (by decide) (by decide) k) ?_
        refine own_s s₁ (mkF m 29 #[rv sb, rv wb, iv 2] []) (fun t k => XS.iinc X0.here hx rfl (hb hby d16_26) rfl (l' := #[rv sb, rv wb, iv 2]) rfl k) ?_
        refine own_s s₁ (mkF m 9 #[rv sb, rv wb, iv 2] []) (fun t k => XS.goto X0.here hx rfl (pc0 := 29) (pc' := 9) rfl (hb hby d16_29) (by decide) (by decide) k) ?_
        refine own_s s₁ (mkF m 10 #[rv sb, rv wb, iv 2] [.int 2]) (fun t k => XS.iloadN X0.here hx rfl (hb hby d16_9) rfl k) ?_
        refine own_s s₁ (mkF m 11 #[rv sb, rv wb, iv 2] [.ref sb, .int 2]) (fun t k => XS.aloadN X0.here hx rfl (hb hby d16_10) rfl rfl k) ?_
        obtain ⟨cl9, Ar9, qa9, S9, M9, H9, U9⟩ := id F_0
        have ln9 := len_of S9 M9
        refine own_s s₁ (mkF m 12 #[rv sb, rv wb, iv 2] [.int 5, .int 2]) (fun t k => X0.arraylength hx (cell := cl9) (by rw [e0]; exact Ar9.1) (State.isArrayOf_alike hZ.alike Ar9.2.1) (g := (mkF m 11 #[rv sb, rv wb, iv 2] [.ref sb, .int 2])) rfl rfl (hb hby d16_11) t (by rw [ln9]; exact k)) ?_
        refine own_s s₁ (mkF m 15 #[rv sb, rv wb, iv 2] []) (fun t k => XS.icmpNo X0.here hx rfl (hb hby d16_12) rfl (tlt (by decide : ((2 : Int32) < (5 : Int32)))).2.1 k) ?_
        refine own_s s₁ (mkF m 16 #[rv sb, rv wb, iv 2] [.ref sb]) (fun t k => XS.aloadN X0.here hx rfl (hb hby d16_15) rfl rfl k) ?_
        refine own_s s₁ (mkF m 17 #[rv sb, rv wb, iv 2] [.int 2, .ref sb]) (fun t k => XS.iloadN X0.here hx rfl (hb hby d16_16) rfl k) ?_
        obtain ⟨cl10, Ar10, qa10, S10, M10, H10, U10⟩ := id F_0
        have hi10 := inb_of S10 (j := (2 : Int32)) ⟨by decide, by decide⟩
        have hat10 := H10.at hi10 (v := (.int (108 : Int32))) rfl
        refine own_s s₁ (mkF m 18 #[rv sb, rv wb, iv 2] [.int 108]) (fun t k => X0.baloadBytes hx (j := (2 : Int32)) (v := (.int (108 : Int32))) (by rw [e0]; exact Ar10.1) (State.isArrayOf_alike hZ.alike Ar10.2.1) Ar10.2.2 hi10 hat10 (g := (mkF m 17 #[rv sb, rv wb, iv 2] [.int 2, .ref sb])) rfl rfl (hb hby d16_17) t k) ?_
        refine own_s s₁ (mkF m 19 #[rv sb, rv wb, iv 2] [.ref wb, .int 108]) (fun t k => XS.aloadN X0.here hx rfl (hb hby d16_18) rfl rfl k) ?_
        refine own_s s₁ (mkF m 20 #[rv sb, rv wb, iv 2] [.int 2, .ref wb, .int 108]) (fun t k => XS.iloadN X0.here hx rfl (hb hby d16_19) rfl k) ?_
        obtain ⟨cl11, Ar11, qa11, S11, M11, H11, U11⟩ := id F_1
        have hi11 := inb_of S11 (j := (2 : Int32)) ⟨by decide, by decide⟩
        have hat11 := H11.at hi11 (v := (.int c2)) rfl
        refine own_s s₁ (mkF m 21 #[rv sb, rv wb, iv 2] [.int c2, .int 108]) (fun t k => X0.baloadBytes hx (j := (2 : Int32)) (v := (.int c2)) (by rw [e0]; exact Ar11.1) (State.isArrayOf_alike hZ.alike Ar11.2.1) Ar11.2.2 hi11 hat11 (g := (mkF m 20 #[rv sb, rv wb, iv 2] [.int 2, .ref wb, .int 108])) rfl rfl (hb hby d16_20) t k) ?_
        by_cases hq2 : (108 : Int32) = c2
        · refine own_s s₁ (mkF m 26 #[rv sb, rv wb, iv 2] []) (fun t k => XS.icmpYes X0.here hx rfl (pc0 := 21) (pc' := 26) rfl (hb hby d16_21) rfl (teq hq2).1 (by decide) (by decide) k) ?_
          refine own_s s₁ (mkF m 29 #[rv sb, rv wb, iv 3] []) (fun t k => XS.iinc X0.here hx rfl (hb hby d16_26) rfl (l' := #[rv sb, rv wb, iv 3]) rfl k) ?_
          refine own_s s₁ (mkF m 9 #[rv sb, rv wb, iv 3] []) (fun t k => XS.goto X0.here hx rfl (pc0 := 29) (pc' := 9) rfl (hb hby d16_29) (by decide) (by decide) k) ?_
          refine own_s s₁ (mkF m 10 #[rv sb, rv wb, iv 3] [.int 3]) (fun t k => XS.iloadN X0.here hx rfl (hb hby d16_9) rfl k) ?_
          refine own_s s₁ (mkF m 11 #[rv sb, rv wb, iv 3] [.ref sb, .int 3]) (fun t k => XS.aloadN X0.here hx rfl (hb hby d16_10) rfl rfl k) ?_
          obtain ⟨cl12, Ar12, qa12, S12, M12, H12, U12⟩ := id F_0
          have ln12 := len_of S12 M12
          refine own_s s₁ (mkF m 12 #[rv sb, rv wb, iv 3] [.int 5, .int 3]) (fun t k => X0.arraylength hx (cell := cl12) (by rw [e0]; exact Ar12.1) (State.isArrayOf_alike hZ.alike Ar12.2.1) (g := (mkF m 11 #[rv sb, rv wb, iv 3] [.ref sb, .int 3])) rfl rfl (hb hby d16_11) t (by rw [ln12]; exact k)) ?_
          refine own_s s₁ (mkF m 15 #[rv sb, rv wb, iv 3] []) (fun t k => XS.icmpNo X0.here hx rfl (hb hby d16_12) rfl (tlt (by decide : ((3 : Int32) < (5 : Int32)))).2.1 k) ?_
          refine own_s s₁ (mkF m 16 #[rv sb, rv wb, iv 3] [.ref sb]) (fun t k => XS.aloadN X0.here hx rfl (hb hby d16_15) rfl rfl k) ?_
          refine own_s s₁ (mkF m 17 #[rv sb, rv wb, iv 3] [.int 3, .ref sb]) (fun t k => XS.iloadN X0.here hx rfl (hb hby d16_16) rfl k) ?_
          obtain ⟨cl13, Ar13, qa13, S13, M13, H13, U13⟩ := id F_0
          have hi13 := inb_of S13 (j := (3 : Int32)) ⟨by decide, by decide⟩
          have hat13 := H13.at hi13 (v := (.int (105 : Int32))) rfl
          refine own_s s₁ (mkF m 18 #[rv sb, rv wb, iv 3] [.int 105]) (fun t k => X0.baloadBytes hx (j := (3 : Int32)) (v := (.int (105 : Int32))) (by rw [e0]; exact Ar13.1) (State.isArrayOf_alike hZ.alike Ar13.2.1) Ar13.2.2 hi13 hat13 (g := (mkF m 17 #[rv sb, rv wb, iv 3] [.int 3, .ref sb])) rfl rfl (hb hby d16_17) t k) ?_
          refine own_s s₁ (mkF m 19 #[rv sb, rv wb, iv 3] [.ref wb, .int 105]) (fun t k => XS.aloadN X0.here hx rfl (hb hby d16_18) rfl rfl k) ?_
          refine own_s s₁ (mkF m 20 #[rv sb, rv wb, iv 3] [.int 3, .ref wb, .int 105]) (fun t k => XS.iloadN X0.here hx rfl (hb hby d16_19) rfl k) ?_
          obtain ⟨cl14, Ar14, qa14, S14, M14, H14, U14⟩ := id F_1
          have hi14 := inb_of S14 (j := (3 : Int32)) ⟨by decide, by decide⟩
          have hat14 := H14.at hi14 (v := (.int c3)) rfl
          refine own_s s₁ (mkF m 21 #[rv sb, rv wb, iv 3] [.int c3, .int 105]) (fun t k => X0.baloadBytes hx (j := (3 : Int32)) (v := (.int c3)) (by rw [e0]; exact Ar14.1) (State.isArrayOf_alike hZ.alike Ar14.2.1) Ar14.2.2 hi14 hat14 (g := (mkF m 20 #[rv sb, rv wb, iv 3] [.int 3, .ref wb, .int 105])) rfl rfl (hb hby d16_20) t k) ?_
          by_cases hq3 : (105 : Int32) = c3
          · refine own_s s₁ (mkF m 26 #[rv sb, rv wb, iv 3] []) (fun t k => XS.icmpYes X0.here hx rfl (pc0 := 21) (pc' := 26) rfl (hb hby d16_21) rfl (teq hq3).1 (by decide) (by decide) k) ?_
            refine own_s s₁ (mkF m 29 #[rv sb, rv wb, iv 4] []) (fun t k => XS.iinc X0.here hx rfl (hb hby d16_26) rfl (l' := #[rv sb, rv wb, iv 4]) rfl k) ?_
            refine own_s s₁ (mkF m 9 #[rv sb, rv wb, iv 4] []) (fun t k => XS.goto X0.here hx rfl (pc0 := 29) (pc' := 9) rfl (hb hby d16_29) (by decide) (by decide) k) ?_
            refine own_s s₁ (mkF m 10 #[rv sb, rv wb, iv 4] [.int 4]) (fun t k => XS.iloadN X0.here hx rfl (hb hby d16_9) rfl k) ?_
            refine own_s s₁ (mkF m 11 #[rv sb, rv wb, iv 4] [.ref sb, .int 4]) (fun t k => XS.aloadN X0.here hx rfl (hb hby d16_10) rfl rfl k) ?_
            obtain ⟨cl15, Ar15, qa15, S15, M15, H15, U15⟩ := id F_0
            have ln15 := len_of S15 M15
            refine own_s s₁ (mkF m 12 #[rv sb, rv wb, iv 4] [.int 5, .int 4]) (fun t k => X0.arraylength hx (cell := cl15) (by rw [e0]; exact Ar15.1) (State.isArrayOf_alike hZ.alike Ar15.2.1) (g := (mkF m 11 #[rv sb, rv wb, iv 4] [.ref sb, .int 4])) rfl rfl (hb hby d16_11) t (by rw [ln15]; exact k)) ?_
            refine own_s s₁ (mkF m 15 #[rv sb, rv wb, iv 4] []) (fun t k => XS.icmpNo X0.here hx rfl (hb hby d16_12) rfl (tlt (by decide : ((4 : Int32) < (5 : Int32)))).2.1 k) ?_
            refine own_s s₁ (mkF m 16 #[rv sb, rv wb, iv 4] [.ref sb]) (fun t k => XS.aloadN X0.here hx rfl (hb hby d16_15) rfl rfl k) ?_
            refine own_s s₁ (mkF m 17 #[rv sb, rv wb, iv 4] [.int 4, .ref sb]) (fun t k => XS.iloadN X0.here hx rfl (hb hby d16_16) rfl k) ?_
            obtain ⟨cl16, Ar16, qa16, S16, M16, H16, U16⟩ := id F_0
            have hi16 := inb_of S16 (j := (4 : Int32)) ⟨by decide, by decide⟩
            have hat16 := H16.at hi16 (v := (.int (100 : Int32))) rfl
            refine own_s s₁ (mkF m 18 #[rv sb, rv wb, iv 4] [.int 100]) (fun t k => X0.baloadBytes hx (j := (4 : Int32)) (v := (.int (100 : Int32))) (by rw [e0]; exact Ar16.1) (State.isArrayOf_alike hZ.alike Ar16.2.1) Ar16.2.2 hi16 hat16 (g := (mkF m 17 #[rv sb, rv wb, iv 4] [.int 4, .ref sb])) rfl rfl (hb hby d16_17) t k) ?_
            refine own_s s₁ (mkF m 19 #[rv sb, rv wb, iv 4] [.ref wb, .int 100]) (fun t k => XS.aloadN X0.here hx rfl (hb hby d16_18) rfl rfl k) ?_
            refine own_s s₁ (mkF m 20 #[rv sb, rv wb, iv 4] [.int 4, .ref wb, .int 100]) (fun t k => XS.iloadN X0.here hx rfl (hb hby d16_19) rfl k) ?_
            obtain ⟨cl17, Ar17, qa17, S17, M17, H17, U17⟩ := id F_1
            have hi17 := inb_of S17 (j := (4 : Int32)) ⟨by decide, by decide⟩
            have hat17 := H17.at hi17 (v := (.int c4)) rfl
            refine own_s s₁ (mkF m 21 #[rv sb, rv wb, iv 4] [.int c4, .int 100]) (fun t k => X0.baloadBytes hx (j := (4 : Int32)) (v := (.int c4)) (by rw [e0]; exact Ar17.1) (State.isArrayOf_alike hZ.alike Ar17.2.1) Ar17.2.2 hi17 hat17 (g := (mkF m 20 #[rv sb, rv wb, iv 4] [.int 4, .ref wb, .int 100])) rfl rfl (hb hby d16_20) t k) ?_
            by_cases hq4 : (100 : Int32) = c4
            · refine own_s s₁ (mkF m 26 #[rv sb, rv wb, iv 4] []) (fun t k => XS.icmpYes X0.here hx rfl (pc0 := 21) (pc' := 26) rfl (hb hby d16_21) rfl (teq hq4).1 (by decide) (by decide) k) ?_
              refine own_s s₁ (mkF m 29 #[rv sb, rv wb, iv 5] []) (fun t k => XS.iinc X0.here hx rfl (hb hby d16_26) rfl (l' := #[rv sb, rv wb, iv 5]) rfl k) ?_
              refine own_s s₁ (mkF m 9 #[rv sb, rv wb, iv 5] []) (fun t k => XS.goto X0.here hx rfl (pc0 := 29) (pc' := 9) rfl (hb hby d16_29) (by decide) (by decide) k) ?_
              refine own_s s₁ (mkF m 10 #[rv sb, rv wb, iv 5] [.int 5]) (fun t k => XS.iloadN X0.here hx rfl (hb hby d16_9) rfl k) ?_
              refine own_s s₁ (mkF m 11 #[rv sb, rv wb, iv 5] [.ref sb, .int 5]) (fun t k => XS.aloadN X0.here hx rfl (hb hby d16_10) rfl rfl k) ?_
              obtain ⟨cl18, Ar18, qa18, S18, M18, H18, U18⟩ := id F_0
              have ln18 := len_of S18 M18
              refine own_s s₁ (mkF m 12 #[rv sb, rv wb, iv 5] [.int 5, .int 5]) (fun t k => X0.arraylength hx (cell := cl18) (by rw [e0]; exact Ar18.1) (State.isArrayOf_alike hZ.alike Ar18.2.1) (g := (mkF m 11 #[rv sb, rv wb, iv 5] [.ref sb, .int 5])) rfl rfl (hb hby d16_11) t (by rw [ln18]; exact k)) ?_
              refine own_s s₁ (mkF m 32 #[rv sb, rv wb, iv 5] []) (fun t k => XS.icmpYes X0.here hx rfl (pc0 := 12) (pc' := 32) rfl (hb hby d16_12) rfl (flt (by decide : ¬ ((5 : Int32) < (5 : Int32)))).2.1 (by decide) (by decide) k) ?_
              refine own_s s₁ (mkF m 33 #[rv sb, rv wb, iv 5] [.int 1]) (fun t k => XS.iconst X0.here hx rfl (hb hby d16_32) k) ?_
              refine own_rN X0 hx hlk Bd.returns (by simp) (hb hby d16_33) ?_ (by decide) (by decide)
              rw [e0]
              exact ⟨congrArg (fun z => some (Value.int z)) (Eq.symm (own_bT (by first | (rw [← hq0, ← hq1, ← hq2, ← hq3, ← hq4]; done) | (rw [← hq0, ← hq1, ← hq2, ← hq3, ← hq4]; rfl)))), N0, rfl⟩
            · refine own_s s₁ (mkF m 24 #[rv sb, rv wb, iv 4] []) (fun t k => XS.icmpNo X0.here hx rfl (hb hby d16_21) rfl (feq hq4).1 k) ?_
              refine own_s s₁ (mkF m 25 #[rv sb, rv wb, iv 4] [.int 0]) (fun t k => XS.iconst X0.here hx rfl (hb hby d16_24) k) ?_
              refine own_rN X0 hx hlk Bd.returns (by simp) (hb hby d16_25) ?_ (by decide) (by decide)
              rw [e0]
              exact ⟨congrArg (fun z => some (Value.int z)) (Eq.symm (own_bF (fun q => hq4 (by simp only [own_LV, List.cons.injEq, Value.int.injEq] at q; exact q.2.2.2.2.1.symm)))), N0, rfl⟩
          · refine own_s s₁ (mkF m 24 #[rv sb, rv wb, iv 3] []) (fun t k => XS.icmpNo X0.here hx rfl (hb hby d16_21) rfl (feq hq3).1 k) ?_
            refine own_s s₁ (mkF m 25 #[rv sb, rv wb, iv 3] [.int 0]) (fun t k => XS.iconst X0.here hx rfl (hb hby d16_24) k) ?_
            refine own_rN X0 hx hlk Bd.returns (by simp) (hb hby d16_25) ?_ (by decide) (by decide)
            rw [e0]
            exact ⟨congrArg (fun z => some (Value.int z)) (Eq.symm (own_bF (fun q => hq3 (by simp only [own_LV, List.cons.injEq, Value.int.injEq] at q; exact q.2.2.2.1.symm)))), N0, rfl⟩
        · refine own_s s₁ (mkF m 24 #[rv sb, rv wb, iv 2] []) (fun t k => XS.icmpNo X0.here hx rfl (hb hby d16_21) rfl (feq hq2).1 k) ?_
          refine own_s s₁ (mkF m 25 #[rv sb, rv wb, iv 2] [.int 0]) (fun t k => XS.iconst X0.here hx rfl (hb hby d16_24) k) ?_
          refine own_rN X0 hx hlk Bd.returns (by simp) (hb hby d16_25) ?_ (by decide) (by decide)
          rw [e0]
          exact ⟨congrArg (fun z => some (Value.int z)) (Eq.symm (own_bF (fun q => hq2 (by simp only [own_LV, List.cons.injEq, Value.int.injEq] at q; exact q.2.2.1.symm)))), N0, rfl⟩
      · refine own_s s₁ (mkF m 24 #[rv sb, rv wb, iv 1] []) (fun t k => XS.icmpNo X0.here hx rfl (hb hby d16_21) rfl (feq hq1).1 k) ?_
        refine own_s s₁ (mkF m 25 #[rv sb, rv wb, iv 1] [.int 0]) (fun t k => XS.iconst X0.here hx rfl (hb hby d16_24) k) ?_
        refine own_rN X0 hx hlk Bd.returns (by simp) (hb hby d16_25) ?_ (by decide) (by decide)
        rw [e0]
        exact ⟨congrArg (fun z => some (Value.int z)) (Eq.symm (own_bF (fun q => hq1 (by simp only [own_LV, List.cons.injEq, Value.int.injEq] at q; exact q.2.1.symm)))), N0, rfl⟩
    · refine own_s s₁ (mkF m 24 #[rv sb, rv wb, iv 0] []) (fun t k => XS.icmpNo X0.here hx rfl (hb hby d16_21) rfl (feq hq0).1 k) ?_
      refine own_s s₁ (mkF m 25 #[rv sb, rv wb, iv 0] [.int 0]) (fun t k => XS.iconst X0.here hx rfl (hb hby d16_24) k) ?_
      refine own_rN X0 hx hlk Bd.returns (by simp) (hb hby d16_25) ?_ (by decide) (by decide)
      rw [e0]
      exact ⟨congrArg (fun z => some (Value.int z)) (Eq.symm (own_bF (fun q => hq0 (by simp only [own_LV, List.cons.injEq, Value.int.injEq] at q; exact q.1.symm)))), N0, rfl⟩
  · refine own_s s₁ (mkF m 1 #[rv sb, rv wb, u_] [.ref sb]) (fun t k => XS.aloadN X0.here hx rfl (hb hby d16_0) rfl rfl k) ?_
    obtain ⟨cl19, Ar19, qa19, S19, M19, H19, U19⟩ := id F_0
    have ln19 := len_of S19 M19
    refine own_s s₁ (mkF m 2 #[rv sb, rv wb, u_] [.int 5]) (fun t k => X0.arraylength hx (cell := cl19) (by rw [e0]; exact Ar19.1) (State.isArrayOf_alike hZ.alike Ar19.2.1) (g := (mkF m 1 #[rv sb, rv wb, u_] [.ref sb])) rfl rfl (hb hby d16_1) t (by rw [ln19]; exact k)) ?_
    refine own_s s₁ (mkF m 3 #[rv sb, rv wb, u_] [.ref wb, .int 5]) (fun t k => XS.aloadN X0.here hx rfl (hb hby d16_2) rfl rfl k) ?_
    obtain ⟨cl20, Ar20, qa20, S20, M20, H20, U20⟩ := id F_1
    have ln20 := len_of S20 M20
    refine own_s s₁ (mkF m 4 #[rv sb, rv wb, u_] [.int zn, .int 5]) (fun t k => X0.arraylength hx (cell := cl20) (by rw [e0]; exact Ar20.1) (State.isArrayOf_alike hZ.alike Ar20.2.1) (g := (mkF m 3 #[rv sb, rv wb, u_] [.ref wb, .int 5])) rfl rfl (hb hby d16_3) t (by rw [ln20]; exact k)) ?_
    refine own_s s₁ (mkF m 34 #[rv sb, rv wb, u_] []) (fun t k => XS.icmpYes X0.here hx rfl (pc0 := 4) (pc' := 34) rfl (hb hby d16_4) rfl (feq (fun q => hz q.symm)).2 (by decide) (by decide) k) ?_
    refine own_s s₁ (mkF m 35 #[rv sb, rv wb, u_] [.int 0]) (fun t k => XS.iconst X0.here hx rfl (hb hby d16_34) k) ?_
    refine own_rN X0 hx hlk Bd.returns (by simp) (hb hby d16_35) ?_ (by decide) (by decide)
    rw [e0]
    exact ⟨congrArg (fun z => some (Value.int z)) (Eq.symm (own_bL (fun q => hz ((own_fT hform).1 q)))), N0, rfl⟩
def Q_leqI1 (Z : State) (wb : Addr) (wk : ClassId) (zn : Int32) (wl : List Value) (sb : Addr) (sk : ClassId) (h0 : Heap) (n0 : Nat) (v : Option Value) (h : Heap) (L : List Loc) : Prop := v = some (.int (own_beq wl own_LI)) ∧ Fr n0 L ∧ h = h0
theorem ef_rm_leqI1 (m : MethodId) (x0 : Addr) (x1 : Addr) : entryFrame m #[(.ref x0), (.ref x1)] 3 = mkF m 0 #[.val (.ref x0), .val (.ref x1), .unset] [] := by first | (simp [entryFrame, mkF, argsToLocals, Value.category]; done) | rfl | (simp [entryFrame, mkF, argsToLocals, Value.category] <;> rfl)
set_option maxRecDepth 65536 in
set_option maxHeartbeats 40000000 in
theorem rm_leqI1 (l : Launch) (Z : State) (a0 : Array Value) (hw : ∀ d ∈ tables_1, d.before a0 Z = true) (ws : List Jvm.Cond) (wb : Addr) (wk : ClassId) (zn : Int32) (wl : List Value) (sb : Addr) (sk : ClassId) (h0 : Heap) (n0 : Nat) (Z0 : n0 ≤ h0.size) (F_0 : Arv Z h0 sb sk .byte (7 : Int32) [(.int (105 : Int32)), (.int (110 : Int32)), (.int (118 : Int32)), (.int (97 : Int32)), (.int (108 : Int32)), (.int (105 : Int32)), (.int (100 : Int32))] (.int (0 : Int32))) (F_1 : Arv Z h0 wb wk .byte zn wl (.int (0 : Int32))) (hform : own_form zn wl) :
    MetFree l (⟨"java/lang/StringLatin1", "equals", "([B[B)Z"⟩ : MethodName) (head1 (Jvm.Cond.code (⟨"java/lang/StringLatin1", "equals", "([B[B)Z"⟩ : MethodName) jdk_43_method_13_code 3 (some (.boolean)) :: ws) ({ frames := 0, cells := 0, slots := 0, locals := 0 } : Room)) (fun a U => a = #[(.ref wb), (.ref sb)] ∧ Z.Warmed39 U.vm ∧ U.heap = h0) (fun _ _ _ _ _ => True) (fun _ U o U' => ∃ v L, o = .returned v ∧ (Q_leqI1 Z wb wk zn wl sb sk h0 n0) v U'.heap L ∧ FrameEnd U o U' L ({ frames := 0, cells := 0, slots := 0, locals := 0 } : Room).cells ({ frames := 0, cells := 0, slots := 0, locals := 0 } : Room).slots) := by
  refine MetFree.of_bodySF (plainFor_of_name pn_2) hisR ?_
  intro p e s m args below meth c s₁ Bd hml0 hP hK
  obtain ⟨rfl, hZ, hh⟩ := hP
  have hx := Bd.exec
  have hby := Bd.bytes
  have hW := fun i d (h : tables_1[i]? = some d) => hw d (List.mem_of_getElem? h)
  have hlk : meth.locks = false := BodyLoose.notSynchronized Bd
  have hml : c.maxLocals = 3 := hml0
  have hown : s.vm.findClass "java/lang/StringLatin1" = some m.cls := findClass_of_methodNamed Bd.named
  have hnm := (name_of_methodNamed Bd.named Bd.method).1
  have X0 : Stand p l e ({ frames := 0, cells := 0, slots := 0, locals := 0 } : Room) s m #[(.ref wb), (.ref sb)] below meth c s₁ [] 0 0 := Stand.of_body Bd
  have e0 : s₁.heap = h0 := by rw [← hh, Bd.state]; rfl
  have N0 := Fr.nil n0
  show own_Go p e below s (Q_leqI1 Z wb wk zn wl sb sk h0 n0) ({ frames := 0, cells := 0, slots := 0, locals := 0 } : Room).cells ({ frames := 0, cells := 0, slots := 0, locals := 0 } : Room).slots s₁ (entryFrame m #[(.ref wb), (.ref sb)] 3)
  refine own_cast (g' := (mkF m 0 #[rv wb, rv sb, u_] [])) (ef_rm_leqI1 m wb sb) ?_
  by_cases hz : zn = (7 : Int32)
  · subst hz
    obtain ⟨c0, c1, c2, c3, c4, c5, c6, rfl⟩ := own_f7 hform
    refine own_s s₁ (mkF m 1 #[rv wb, rv sb, u_] [.ref wb]) (fun t k => XS.aloadN X0.here hx rfl (hb hby d16_0) rfl rfl k) ?_
    obtain ⟨cl1, Ar1, qa1, S1, M1, H1, U1⟩ := id F_1
    have ln1 := len_of S1 M1
    refine own_s s₁ (mkF m 2 #[rv wb, rv sb, u_] [.int 7]) (fun t k => X0.arraylength hx (cell := cl1) (by rw [e0]; exact Ar1.1) (State.isArrayOf_alike hZ.alike Ar1.2.1) (g := (mkF m 1 #[rv wb, rv sb, u_] [.ref wb])) rfl rfl (hb hby d16_1) t (by rw [ln1]; exact k)) ?_
    refine own_s s₁ (mkF m 3 #[rv wb, rv sb, u_] [.ref sb, .int 7]) (fun t k => XS.aloadN X0.here hx rfl (hb hby d16_2) rfl rfl k) ?_
    obtain ⟨cl2, Ar2, qa2, S2, M2, H2, U2⟩ := id F_0
    have ln2 := len_of S2 M2
    refine own_s s₁ (mkF m 4 #[rv wb, rv sb, u_] [.int 7, .int 7]) (fun t k => X0.arraylength hx (cell := cl2) (by rw [e0]; exact Ar2.1) (State.isArrayOf_alike hZ.alike Ar2.2.1) (g := (mkF m 3 #[rv wb, rv sb, u_] [.ref sb, .int 7])) rfl rfl (hb hby d16_3) t (by rw [ln2]; exact k)) ?_
    refine own_s s₁ (mkF m 7 #[rv wb, rv sb, u_] []) (fun t k => XS.icmpNo X0.here hx rfl (hb hby d16_4) rfl (teq (by decide : ((7 : Int32) = (7 : Int32)))).2 k) ?_
    refine own_s s₁ (mkF m 8 #[rv wb, rv sb, u_] [.int 0]) (fun t k => XS.iconst X0.here hx rfl (hb hby d16_7) k) ?_
    refine own_s s₁ (mkF m 9 #[rv wb, rv sb, iv 0] []) (fun t k => XS.istoreN X0.here hx rfl (hb hby d16_8) rfl (l' := #[rv wb, rv sb, iv 0]) rfl k) ?_
    refine own_s s₁ (mkF m 10 #[rv wb, rv sb, iv 0] [.int 0]) (fun t k => XS.iloadN X0.here hx rfl (hb hby d16_9) rfl k) ?_
    refine own_s s₁ (mkF m 11 #[rv wb, rv sb, iv 0] [.ref wb, .int 0]) (fun t k => XS.aloadN X0.here hx rfl (hb hby d16_10) rfl rfl k) ?_
    obtain ⟨cl3, Ar3, qa3, S3, M3, H3, U3⟩ := id F_1
    have ln3 := len_of S3 M3
    refine own_s s₁ (mkF m 12 #[rv wb, rv sb, iv 0] [.int 7, .int 0]) (fun t k => X0.arraylength hx (cell := cl3) (by rw [e0]; exact Ar3.1) (State.isArrayOf_alike hZ.alike Ar3.2.1) (g := (mkF m 11 #[rv wb, rv sb, iv 0] [.ref wb, .int 0])) rfl rfl (hb hby d16_11) t (by rw [ln3]; exact k)) ?_
    refine own_s s₁ (mkF m 15 #[rv wb, rv sb, iv 0] []) (fun t k => XS.icmpNo X0.here hx rfl (hb hby d16_12) rfl (tlt (by decide : ((0 : Int32) < (7 : Int32)))).2.1 k) ?_
    refine own_s s₁ (mkF m 16 #[rv wb, rv sb, iv 0] [.ref wb]) (fun t k => XS.aloadN X0.here hx rfl (hb hby d16_15) rfl rfl k) ?_
    refine own_s s₁ (mkF m 17 #[rv wb, rv sb, iv 0] [.int 0, .ref wb]) (fun t k => XS.iloadN X0.here hx rfl (hb hby d16_16) rfl k) ?_
    obtain ⟨cl4, Ar4, qa4, S4, M4, H4, U4⟩ := id F_1
    have hi4 := inb_of S4 (j := (0 : Int32)) ⟨by decide, by decide⟩
    have hat4 := H4.at hi4 (v := (.int c0)) rfl
    refine own_s s₁ (mkF m 18 #[rv wb, rv sb, iv 0] [.int c0]) (fun t k => X0.baloadBytes hx (j := (0 : Int32)) (v := (.int c0)) (by rw [e0]; exact Ar4.1) (State.isArrayOf_alike hZ.alike Ar4.2.1) Ar4.2.2 hi4 hat4 (g := (mkF m 17 #[rv wb, rv sb, iv 0] [.int 0, .ref wb])) rfl rfl (hb hby d16_17) t k) ?_
    refine own_s s₁ (mkF m 19 #[rv wb, rv sb, iv 0] [.ref sb, .int c0]) (fun t k => XS.aloadN X0.here hx rfl (hb hby d16_18) rfl rfl k) ?_
    refine own_s s₁ (mkF m 20 #[rv wb, rv sb, iv 0] [.int 0, .ref sb, .int c0]) (fun t k => XS.iloadN X0.here hx rfl (hb hby d16_19) rfl k) ?_
    obtain ⟨cl5, Ar5, qa5, S5, M5, H5, U5⟩ := id F_0
    have hi5 := inb_of S5 (j := (0 : Int32)) ⟨by decide, by decide⟩
    have hat5 := H5.at hi5 (v := (.int (105 : Int32))) rfl
    refine own_s s₁ (mkF m 21 #[rv wb, rv sb, iv 0] [.int 105, .int c0]) (fun t k => X0.baloadBytes hx (j := (0 : Int32)) (v := (.int (105 : Int32))) (by rw [e0]; exact Ar5.1) (State.isArrayOf_alike hZ.alike Ar5.2.1) Ar5.2.2 hi5 hat5 (g := (mkF m 20 #[rv wb, rv sb, iv 0] [.int 0, .ref sb, .int c0])) rfl rfl (hb hby d16_20) t k) ?_
    by_cases hq0 : c0 = (105 : Int32)
    · refine own_s s₁ (mkF m 26 #[rv wb, rv sb, iv 0] []) (fun t k => XS.icmpYes X0.here hx rfl (pc0 := 21) (pc' := 26) rfl (hb hby d16_21) rfl (teq hq0).1 (by decide) (by decide) k) ?_
      refine own_s s₁ (mkF m 29 #[rv wb, rv sb, iv 1] []) (fun t k => XS.iinc X0.here hx rfl (hb hby d16_26) rfl (l' := #[rv wb, rv sb, iv 1]) rfl k) ?_
      refine own_s s₁ (mkF m 9 #[rv wb, rv sb, iv 1] []) (fun t k => XS.goto X0.here hx rfl (pc0 := 29) (pc' := 9) rfl (hb hby d16_29) (by decide) (by decide) k) ?_
      refine own_s s₁ (mkF m 10 #[rv wb, rv sb, iv 1] [.int 1]) (fun t k => XS.iloadN X0.here hx rfl (hb hby d16_9) rfl k) ?_
      refine own_s s₁ (mkF m 11 #[rv wb, rv sb, iv 1] [.ref wb, .int 1]) (fun t k => XS.aloadN X0.here hx rfl (hb hby d16_10) rfl rfl k) ?_
      obtain ⟨cl6, Ar6, qa6, S6, M6, H6, U6⟩ := id F_1
      have ln6 := len_of S6 M6
      refine own_s s₁ (mkF m 12 #[rv wb, rv sb, iv 1] [.int 7, .int 1]) (fun t k => X0.arraylength hx (cell := cl6) (by rw [e0]; exact Ar6.1) (State.isArrayOf_alike hZ.alike Ar6.2.1) (g := (mkF m 11 #[rv wb, rv sb, iv 1] [.ref wb, .int 1])) rfl rfl (hb hby d16_11) t (by rw [ln6]; exact k)) ?_
      refine own_s s₁ (mkF m 15 #[rv wb, rv sb, iv 1] []) (fun t k => XS.icmpNo X0.here hx rfl (hb hby d16_12) rfl (tlt (by decide : ((1 : Int32) < (7 : Int32)))).2.1 k) ?_
      refine own_s s₁ (mkF m 16 #[rv wb, rv sb, iv 1] [.ref wb]) (fun t k => XS.aloadN X0.here hx rfl (hb hby d16_15) rfl rfl k) ?_
      refine own_s s₁ (mkF m 17 #[rv wb, rv sb, iv 1] [.int 1, .ref wb]) (fun t k => XS.iloadN X0.here hx rfl (hb hby d16_16) rfl k) ?_
      obtain ⟨cl7, Ar7, qa7, S7, M7, H7, U7⟩ := id F_1
      have hi7 := inb_of S7 (j := (1 : Int32)) ⟨by decide, by decide⟩
      have hat7 := H7.at hi7 (v := (.int c1)) rfl
      refine own_s s₁ (mkF m 18 #[rv wb, rv sb, iv 1] [.int c1]) (fun t k => X0.baloadBytes hx (j := (1 : Int32)) (v := (.int c1)) (by rw [e0]; exact Ar7.1) (State.isArrayOf_alike hZ.alike Ar7.2.1) Ar7.2.2 hi7 hat7 (g := (mkF m 17 #[rv wb, rv sb, iv 1] [.int 1, .ref wb])) rfl rfl (hb hby d16_17) t k) ?_
      refine own_s s₁ (mkF m 19 #[rv wb, rv sb, iv 1] [.ref sb, .int c1]) (fun t k => XS.aloadN X0.here hx rfl (hb hby d16_18) rfl rfl k) ?_
      refine own_s s₁ (mkF m 20 #[rv wb, rv sb, iv 1] [.int 1, .ref sb, .int c1]) (fun t k => XS.iloadN X0.here hx rfl (hb hby d16_19) rfl k) ?_
      obtain ⟨cl8, Ar8, qa8, S8, M8, H8, U8⟩ := id F_0
      have hi8 := inb_of S8 (j := (1 : Int32)) ⟨by decide, by decide⟩
      have hat8 := H8.at hi8 (v := (.int (110 : Int32))) rfl
      refine own_s s₁ (mkF m 21 #[rv wb, rv sb, iv 1] [.int 110, .int c1]) (fun t k => X0.baloadBytes hx (j := (1 : Int32)) (v := (.int (110 : Int32))) (by rw [e0]; exact Ar8.1) (State.isArrayOf_alike hZ.alike Ar8.2.1) Ar8.2.2 hi8 hat8 (g := (mkF m 20 #[rv wb, rv sb, iv 1] [.int 1, .ref sb, .int c1])) rfl rfl (hb hby d16_20) t k) ?_
      by_cases hq1 : c1 = (110 : Int32)
      · refine own_s s₁ (mkF m 26 #[rv wb, rv sb, iv 1] []) (fun t k => XS.icmpYes X0.here hx rfl (pc0 := 21) (pc' := 26) rfl (hb hby d16_21) rfl (teq hq1).1 (by decide) (by decide) k) ?_
        refine own_s s₁ (mkF m 29 #[rv wb, rv sb, iv 2] []) (fun t k => XS.iinc X0.here hx rfl (hb hby d16_26) rfl (l' := #[rv wb, rv sb, iv 2]) rfl k) ?_
        refine own_s s₁ (mkF m 9 #[rv wb, rv sb, iv 2] []) (fun t k => XS.goto X0.here hx rfl (pc0 := 29) (pc' := 9) rfl (hb hby d16_29) (by decide) (by decide) k) ?_
        refine own_s s₁ (mkF m 10 #[rv wb, rv sb, iv 2] [.int 2]) (fun t k => XS.iloadN X0.here hx rfl (hb hby d16_9) rfl k) ?_
        refine own_s s₁ (mkF m 11 #[rv wb, rv sb, iv 2] [.ref wb, .int 2]) (fun t k => XS.aloadN X0.here hx rfl (hb hby d16_10) rfl rfl k) ?_
        obtain ⟨cl9, Ar9, qa9, S9, M9, H9, U9⟩ := id F_1
        have ln9 := len_of S9 M9
        refine own_s s₁ (mkF m 12 #[rv wb, rv sb, iv 2] [.int 7, .int 2]) (fun t k => X0.arraylength hx (cell := cl9) (by rw [e0]; exact Ar9.1) (State.isArrayOf_alike hZ.alike Ar9.2.1) (g := (mkF m 11 #[rv wb, rv sb, iv 2] [.ref wb, .int 2])) rfl rfl (hb hby d16_11) t (by rw [ln9]; exact k)) ?_
        refine own_s s₁ (mkF m 15 #[rv wb, rv sb, iv 2] []) (fun t k => XS.icmpNo X0.here hx rfl (hb hby d16_12) rfl (tlt (by decide : ((2 : Int32) < (7 : Int32)))).2.1 k) ?_
        refine own_s s₁ (mkF m 16 #[rv wb, rv sb, iv 2] [.ref wb]) (fun t k => XS.aloadN X0.here hx rfl (hb hby d16_15) rfl rfl k) ?_
        refine own_s s₁ (mkF m 17 #[rv wb, rv sb, iv 2] [.int 2, .ref wb]) (fun t k => XS.iloadN X0.here hx rfl (hb hby d16_16) rfl k) ?_
        obtain ⟨cl10, Ar10, qa10, S10, M10, H10, U10⟩ := id F_1
        have hi10 := inb_of S10 (j := (2 : Int32)) ⟨by decide, by decide⟩
        have hat10 := H10.at hi10 (v := (.int c2)) rfl
        refine own_s s₁ (mkF m 18 #[rv wb, rv sb, iv 2] [.int c2]) (fun t k => X0.baloadBytes hx (j := (2 : Int32)) (v := (.int c2)) (by rw [e0]; exact Ar10.1) (State.isArrayOf_alike hZ.alike Ar10.2.1) Ar10.2.2 hi10 hat10 (g := (mkF m 17 #[rv wb, rv sb, iv 2] [.int 2, .ref wb])) rfl rfl (hb hby d16_17) t k) ?_
        refine own_s s₁ (mkF m 19 #[rv wb, rv sb, iv 2] [.ref sb, .int c2]) (fun t k => XS.aloadN X0.here hx rfl (hb hby d16_18) rfl rfl k) ?_
        refine own_s s₁ (mkF m 20 #[rv wb, rv sb, iv 2] [.int 2, .ref sb, .int c2]) (fun t k => XS.iloadN X0.here hx rfl (hb hby d16_19) rfl k) ?_
        obtain ⟨cl11, Ar11, qa11, S11, M11, H11, U11⟩ := id F_0
        have hi11 := inb_of S11 (j := (2 : Int32)) ⟨by decide, by decide⟩
        have hat11 := H11.at hi11 (v := (.int (118 : Int32))) rfl
        refine own_s s₁ (mkF m 21 #[rv wb, rv sb, iv 2] [.int 118, .int c2]) (fun t k => X0.baloadBytes hx (j := (2 : Int32)) (v := (.int (118 : Int32))) (by rw [e0]; exact Ar11.1) (State.isArrayOf_alike hZ.alike Ar11.2.1) Ar11.2.2 hi11 hat11 (g := (mkF m 20 #[rv wb, rv sb, iv 2] [.int 2, .ref sb, .int c2])) rfl rfl (hb hby d16_20) t k) ?_
        by_cases hq2 : c2 = (118 : Int32)
        · refine own_s s₁ (mkF m 26 #[rv wb, rv sb, iv 2] []) (fun t k => XS.icmpYes X0.here hx rfl (pc0 := 21) (pc' := 26) rfl (hb hby d16_21) rfl (teq hq2).1 (by decide) (by decide) k) ?_
          refine own_s s₁ (mkF m 29 #[rv wb, rv sb, iv 3] []) (fun t k => XS.iinc X0.here hx rfl (hb hby d16_26) rfl (l' := #[rv wb, rv sb, iv 3]) rfl k) ?_
          refine own_s s₁ (mkF m 9 #[rv wb, rv sb, iv 3] []) (fun t k => XS.goto X0.here hx rfl (pc0 := 29) (pc' := 9) rfl (hb hby d16_29) (by decide) (by decide) k) ?_
          refine own_s s₁ (mkF m 10 #[rv wb, rv sb, iv 3] [.int 3]) (fun t k => XS.iloadN X0.here hx rfl (hb hby d16_9) rfl k) ?_
          refine own_s s₁ (mkF m 11 #[rv wb, rv sb, iv 3] [.ref wb, .int 3]) (fun t k => XS.aloadN X0.here hx rfl (hb hby d16_10) rfl rfl k) ?_
          obtain ⟨cl12, Ar12, qa12, S12, M12, H12, U12⟩ := id F_1
          have ln12 := len_of S12 M12
          refine own_s s₁ (mkF m 12 #[rv wb, rv sb, iv 3] [.int 7, .int 3]) (fun t k => X0.arraylength hx (cell := cl12) (by rw [e0]; exact Ar12.1) (State.isArrayOf_alike hZ.alike Ar12.2.1) (g := (mkF m 11 #[rv wb, rv sb, iv 3] [.ref wb, .int 3])) rfl rfl (hb hby d16_11) t (by rw [ln12]; exact k)) ?_
          refine own_s s₁ (mkF m 15 #[rv wb, rv sb, iv 3] []) (fun t k => XS.icmpNo X0.here hx rfl (hb hby d16_12) rfl (tlt (by decide : ((3 : Int32) < (7 : Int32)))).2.1 k) ?_
          refine own_s s₁ (mkF m 16 #[rv wb, rv sb, iv 3] [.ref wb]) (fun t k => XS.aloadN X0.here hx rfl (hb hby d16_15) rfl rfl k) ?_
          refine own_s s₁ (mkF m 17 #[rv wb, rv sb, iv 3] [.int 3, .ref wb]) (fun t k => XS.iloadN X0.here hx rfl (hb hby d16_16) rfl k) ?_
          obtain ⟨cl13, Ar13, qa13, S13, M13, H13, U13⟩ := id F_1
          have hi13 := inb_of S13 (j := (3 : Int32)) ⟨by decide, by decide⟩
          have hat13 := H13.at hi13 (v := (.int c3)) rfl
          refine own_s s₁ (mkF m 18 #[rv wb, rv sb, iv 3] [.int c3]) (fun t k => X0.baloadBytes hx (j := (3 : Int32)) (v := (.int c3)) (by rw [e0]; exact Ar13.1) (State.isArrayOf_alike hZ.alike Ar13.2.1) Ar13.2.2 hi13 hat13 (g := (mkF m 17 #[rv wb, rv sb, iv 3] [.int 3, .ref wb])) rfl rfl (hb hby d16_17) t k) ?_
          refine own_s s₁ (mkF m 19 #[rv wb, rv sb, iv 3] [.ref sb, .int c3]) (fun t k => XS.aloadN X0.here hx rfl (hb hby d16_18) rfl rfl k) ?_
          refine own_s s₁ (mkF m 20 #[rv wb, rv sb, iv 3] [.int 3, .ref sb, .int c3]) (fun t k => XS.iloadN X0.here hx rfl (hb hby d16_19) rfl k) ?_
          obtain ⟨cl14, Ar14, qa14, S14, M14, H14, U14⟩ := id F_0
          have hi14 := inb_of S14 (j := (3 : Int32)) ⟨by decide, by decide⟩
          have hat14 := H14.at hi14 (v := (.int (97 : Int32))) rfl
          refine own_s s₁ (mkF m 21 #[rv wb, rv sb, iv 3] [.int 97, .int c3]) (fun t k => X0.baloadBytes hx (j := (3 : Int32)) (v := (.int (97 : Int32))) (by rw [e0]; exact Ar14.1) (State.isArrayOf_alike hZ.alike Ar14.2.1) Ar14.2.2 hi14 hat14 (g := (mkF m 20 #[rv wb, rv sb, iv 3] [.int 3, .ref sb, .int c3])) rfl rfl (hb hby d16_20) t k) ?_
          by_cases hq3 : c3 = (97 : Int32)
          · refine own_s s₁ (mkF m 26 #[rv wb, rv sb, iv 3] []) (fun t k => XS.icmpYes X0.here hx rfl (pc0 := 21) (pc' := 26) rfl (hb hby d16_21) rfl (teq hq3).1 (by decide) (by decide) k) ?_
            refine own_s s₁ (mkF m 29 #[rv wb, rv sb, iv 4] []) (fun t k => XS.iinc X0.here hx rfl (hb hby d16_26) rfl (l' := #[rv wb, rv sb, iv 4]) rfl k) ?_
            refine own_s s₁ (mkF m 9 #[rv wb, rv sb, iv 4] []) (fun t k => XS.goto X0.here hx rfl (pc0 := 29) (pc' := 9) rfl (hb hby d16_29) (by decide) (by decide) k) ?_
            refine own_s s₁ (mkF m 10 #[rv wb, rv sb, iv 4] [.int 4]) (fun t k => XS.iloadN X0.here hx rfl (hb hby d16_9) rfl k) ?_
            refine own_s s₁ (mkF m 11 #[rv wb, rv sb, iv 4] [.ref wb, .int 4]) (fun t k => XS.aloadN X0.here hx rfl (hb hby d16_10) rfl rfl k) ?_
            obtain ⟨cl15, Ar15, qa15, S15, M15, H15, U15⟩ := id F_1
            have ln15 := len_of S15 M15
            refine own_s s₁ (mkF m 12 #[rv wb, rv sb, iv 4] [.int 7, .int 4]) (fun t k => X0.arraylength hx (cell := cl15) (by rw [e0]; exact Ar15.1) (State.isArrayOf_alike hZ.alike Ar15.2.1) (g := (mkF m 11 #[rv wb, rv sb, iv 4] [.ref wb, .int 4])) rfl rfl (hb hby d16_11) t (by rw [ln15]; exact k)) ?_
            refine own_s s₁ (mkF m 15 #[rv wb, rv sb, iv 4] []) (fun t k => XS.icmpNo X0.here hx rfl (hb hby d16_12) rfl (tlt (by decide : ((4 : Int32) < (7 : Int32)))).2.1 k) ?_
            refine own_s s₁ (mkF m 16 #[rv wb, rv sb, iv 4] [.ref wb]) (fun t k => XS.aloadN X0.here hx rfl (hb hby d16_15) rfl rfl k) ?_
            refine own_s s₁ (mkF m 17 #[rv wb, rv sb, iv 4] [.int 4, .ref wb]) (fun t k => XS.iloadN X0.here hx rfl (hb hby d16_16) rfl k) ?_
            obtain ⟨cl16, Ar16, qa16, S16, M16, H16, U16⟩ := id F_1
            have hi16 := inb_of S16 (j := (4 : Int32)) ⟨by decide, by decide⟩
            have hat16 := H16.at hi16 (v := (.int c4)) rfl
            refine own_s s₁ (mkF m 18 #[rv wb, rv sb, iv 4] [.int c4]) (fun t k => X0.baloadBytes hx (j := (4 : Int32)) (v := (.int c4)) (by rw [e0]; exact Ar16.1) (State.isArrayOf_alike hZ.alike Ar16.2.1) Ar16.2.2 hi16 hat16 (g := (mkF m 17 #[rv wb, rv sb, iv 4] [.int 4, .ref wb])) rfl rfl (hb hby d16_17) t k) ?_
            refine own_s s₁ (mkF m 19 #[rv wb, rv sb, iv 4] [.ref sb, .int c4]) (fun t k => XS.aloadN X0.here hx rfl (hb hby d16_18) rfl rfl k) ?_
            refine own_s s₁ (mkF m 20 #[rv wb, rv sb, iv 4] [.int 4, .ref sb, .int c4]) (fun t k => XS.iloadN X0.here hx rfl (hb hby d16_19) rfl k) ?_
            obtain ⟨cl17, Ar17, qa17, S17, M17, H17, U17⟩ := id F_0
            have hi17 := inb_of S17 (j := (4 : Int32)) ⟨by decide, by decide⟩
            have hat17 := H17.at hi17 (v := (.int (108 : Int32))) rfl
            refine own_s s₁ (mkF m 21 #[rv wb, rv sb, iv 4] [.int 108, .int c4]) (fun t k => X0.baloadBytes hx (j := (4 : Int32)) (v := (.int (108 : Int32))) (by rw [e0]; exact Ar17.1) (State.isArrayOf_alike hZ.alike Ar17.2.1) Ar17.2.2 hi17 hat17 (g := (mkF m 20 #[rv wb, rv sb, iv 4] [.int 4, .ref sb, .int c4])) rfl rfl (hb hby d16_20) t k) ?_
            by_cases hq4 : c4 = (108 : Int32)
            · refine own_s s₁ (mkF m 26 #[rv wb, rv sb, iv 4] []) (fun t k => XS.icmpYes X0.here hx rfl (pc0 := 21) (pc' := 26) rfl (hb hby d16_21) rfl (teq hq4).1 (by decide) (by decide) k) ?_
              refine own_s s₁ (mkF m 29 #[rv wb, rv sb, iv 5] []) (fun t k => XS.iinc X0.here hx rfl (hb hby d16_26) rfl (l' := #[rv wb, rv sb, iv 5]) rfl k) ?_
              refine own_s s₁ (mkF m 9 #[rv wb, rv sb, iv 5] []) (fun t k => XS.goto X0.here hx rfl (pc0 := 29) (pc' := 9) rfl (hb hby d16_29) (by decide) (by decide) k) ?_
              refine own_s s₁ (mkF m 10 #[rv wb, rv sb, iv 5] [.int 5]) (fun t k => XS.iloadN X0.here hx rfl (hb hby d16_9) rfl k) ?_
              refine own_s s₁ (mkF m 11 #[rv wb, rv sb, iv 5] [.ref wb, .int 5]) (fun t k => XS.aloadN X0.here hx rfl (hb hby d16_10) rfl rfl k) ?_
              obtain ⟨cl18, Ar18, qa18, S18, M18, H18, U18⟩ := id F_1
              have ln18 := len_of S18 M18
              refine own_s s₁ (mkF m 12 #[rv wb, rv sb, iv 5] [.int 7, .int 5]) (fun t k => X0.arraylength hx (cell := cl18) (by rw [e0]; exact Ar18.1) (State.isArrayOf_alike hZ.alike Ar18.2.1) (g := (mkF m 11 #[rv wb, rv sb, iv 5] [.ref wb, .int 5])) rfl rfl (hb hby d16_11) t (by rw [ln18]; exact k)) ?_
              refine own_s s₁ (mkF m 15 #[rv wb, rv sb, iv 5] []) (fun t k => XS.icmpNo X0.here hx rfl (hb hby d16_12) rfl (tlt (by decide : ((5 : Int32) < (7 : Int32)))).2.1 k) ?_
              refine own_s s₁ (mkF m 16 #[rv wb, rv sb, iv 5] [.ref wb]) (fun t k => XS.aloadN X0.here hx rfl (hb hby d16_15) rfl rfl k) ?_
              refine own_s s₁ (mkF m 17 #[rv wb, rv sb, iv 5] [.int 5, .ref wb]) (fun t k => XS.iloadN X0.here hx rfl (hb hby d16_16) rfl k) ?_
              obtain ⟨cl19, Ar19, qa19, S19, M19, H19, U19⟩ := id F_1
              have hi19 := inb_of S19 (j := (5 : Int32)) ⟨by decide, by decide⟩
              have hat19 := H19.at hi19 (v := (.int c5)) rfl
              refine own_s s₁ (mkF m 18 #[rv wb, rv sb, iv 5] [.int c5]) (fun t k => X0.baloadBytes hx (j := (5 : Int32)) (v := (.int c5)) (by rw [e0]; exact Ar19.1) (State.isArrayOf_alike hZ.alike Ar19.2.1) Ar19.2.2 hi19 hat19 (g := (mkF m 17 #[rv wb, rv sb, iv 5] [.int 5, .ref wb])) rfl rfl (hb hby d16_17) t k) ?_
              refine own_s s₁ (mkF m 19 #[rv wb, rv sb, iv 5] [.ref sb, .int c5]) (fun t k => XS.aloadN X0.here hx rfl (hb hby d16_18) rfl rfl k) ?_
              refine own_s s₁ (mkF m 20 #[rv wb, rv sb, iv 5] [.int 5, .ref sb, .int c5]) (fun t k => XS.iloadN X0.here hx rfl (hb hby d16_19) rfl k) ?_
              obtain ⟨cl20, Ar20, qa20, S20, M20, H20, U20⟩ := id F_0
              have hi20 := inb_of S20 (j := (5 : Int32)) ⟨by decide, by decide⟩
              have hat20 := H20.at hi20 (v := (.int (105 : Int32))) rfl
              refine own_s s₁ (mkF m 21 #[rv wb, rv sb, iv 5] [.int 105, .int c5]) (fun t k => X0.baloadBytes hx (j := (5 : Int32)) (v := (.int (105 : Int32))) (by rw [e0]; exact Ar20.1) (State.isArrayOf_alike hZ.alike Ar20.2.1) Ar20.2.2 hi20 hat20 (g := (mkF m 20 #[rv wb, rv sb, iv 5] [.int 5, .ref sb, .int c5])) rfl rfl (hb hby d16_20) t k) ?_
              by_cases hq5 : c5 = (105 : Int32)
              · refine own_s s₁ (mkF m 26 #[rv wb, rv sb, iv 5] []) (fun t k => XS.icmpYes X0.here hx rfl (pc0 := 21) (pc' := 26) rfl (hb hby d16_21) rfl (teq hq5).1 (by decide) (by decide) k) ?_
                refine own_s s₁ (mkF m 29 #[rv wb, rv sb, iv 6] []) (fun t k => XS.iinc X0.here hx rfl (hb hby d16_26) rfl (l' := #[rv wb, rv sb, iv 6]) rfl k) ?_
                refine own_s s₁ (mkF m 9 #[rv wb, rv sb, iv 6] []) (fun t k => XS.goto X0.here hx rfl (pc0 := 29) (pc' := 9) rfl (hb hby d16_29) (by decide) (by decide) k) ?_
                refine own_s s₁ (mkF m 10 #[rv wb, rv sb, iv 6] [.int 6]) (fun t k => XS.iloadN X0.here hx rfl (hb hby d16_9) rfl k) ?_
                refine own_s s₁ (mkF m 11 #[rv wb, rv sb, iv 6] [.ref wb, .int 6]) (fun t k => XS.aloadN X0.here hx rfl (hb hby d16_10) rfl rfl k) ?_
                obtain ⟨cl21, Ar21, qa21, S21, M21, H21, U21⟩ := id F_1
                have ln21 := len_of S21 M21
                refine own_s s₁ (mkF m 12 #[rv wb, rv sb, iv 6] [.int 7, .int 6]) (fun t k => X0.arraylength hx (cell := cl21) (by rw [e0]; exact Ar21.1) (State.isArrayOf_alike hZ.alike Ar21.2.1) (g := (mkF m 11 #[rv wb, rv sb, iv 6] [.ref wb, .int 6])) rfl rfl (hb hby d16_11) t (by rw [ln21]; exact k)) ?_
                refine own_s s₁ (mkF m 15 #[rv wb, rv sb, iv 6] []) (fun t k => XS.icmpNo X0.here hx rfl (hb hby d16_12) rfl (tlt (by decide : ((6 : Int32) < (7 : Int32)))).2.1 k) ?_
                refine own_s s₁ (mkF m 16 #[rv wb, rv sb, iv 6] [.ref wb]) (fun t k => XS.aloadN X0.here hx rfl (hb hby d16_15) rfl rfl k) ?_
                refine own_s s₁ (mkF m 17 #[rv wb, rv sb, iv 6] [.int 6, .ref wb]) (fun t k => XS.iloadN X0.here hx rfl (hb hby d16_16) rfl k) ?_
                obtain ⟨cl22, Ar22, qa22, S22, M22, H22, U22⟩ := id F_1
                have hi22 := inb_of S22 (j := (6 : Int32)) ⟨by decide, by decide⟩
                have hat22 := H22.at hi22 (v := (.int c6)) rfl
                refine own_s s₁ (mkF m 18 #[rv wb, rv sb, iv 6] [.int c6]) (fun t k => X0.baloadBytes hx (j := (6 : Int32)) (v := (.int c6)) (by rw [e0]; exact Ar22.1) (State.isArrayOf_alike hZ.alike Ar22.2.1) Ar22.2.2 hi22 hat22 (g := (mkF m 17 #[rv wb, rv sb, iv 6] [.int 6, .ref wb])) rfl rfl (hb hby d16_17) t k) ?_
                refine own_s s₁ (mkF m 19 #[rv wb, rv sb, iv 6] [.ref sb, .int c6]) (fun t k => XS.aloadN X0.here hx rfl (hb hby d16_18) rfl rfl k) ?_
                refine own_s s₁ (mkF m 20 #[rv wb, rv sb, iv 6] [.int 6, .ref sb, .int c6]) (fun t k => XS.iloadN X0.here hx rfl (hb hby d16_19) rfl k) ?_
                obtain ⟨cl23, Ar23, qa23, S23, M23, H23, U23⟩ := id F_0
                have hi23 := inb_of S23 (j := (6 : Int32)) ⟨by decide, by decide⟩
                have hat23 := H23.at hi23 (v := (.int (100 : Int32))) rfl
                refine own_s s₁ (mkF m 21 #[rv wb, rv sb, iv 6] [.int 100, .int c6]) (fun t k => X0.baloadBytes hx (j := (6 : Int32)) (v := (.int (100 : Int32))) (by rw [e0]; exact Ar23.1) (State.isArrayOf_alike hZ.alike Ar23.2.1) Ar23.2.2 hi23 hat23 (g := (mkF m 20 #[rv wb, rv sb, iv 6] [.int 6, .ref sb, .int c6])) rfl rfl (hb hby d16_20) t k) ?_
                by_cases hq6 : c6 = (100 : Int32)
                · refine own_s s₁ (mkF m 26 #[rv wb, rv sb, iv 6] []) (fun t k => XS.icmpYes X0.here hx rfl (pc0 := 21) (pc' := 26) rfl (hb hby d16_21) rfl (teq hq6).1 (by decide) (by decide) k) ?_
                  refine own_s s₁ (mkF m 29 #[rv wb, rv sb, iv 7] []) (fun t k => XS.iinc X0.here hx rfl (hb hby d16_26) rfl (l' := #[rv wb, rv sb, iv 7]) rfl k) ?_
                  refine own_s s₁ (mkF m 9 #[rv wb, rv sb, iv 7] []) (fun t k => XS.goto X0.here hx rfl (pc0 := 29) (pc' := 9) rfl (hb hby d16_29) (by decide) (by decide) k) ?_
                  refine own_s s₁ (mkF m 10 #[rv wb, rv sb, iv 7] [.int 7]) (fun t k => XS.iloadN X0.here hx rfl (hb hby d16_9) rfl k) ?_
                  refine own_s s₁ (mkF m 11 #[rv wb, rv sb, iv 7] [.ref wb, .int 7]) (fun t k => XS.aloadN X0.here hx rfl (hb hby d16_10) rfl rfl k) ?_
                  obtain ⟨cl24, Ar24, qa24, S24, M24, H24, U24⟩ := id F_1
                  have ln24 := len_of S24 M24
                  refine own_s s₁ (mkF m 12 #[rv wb, rv sb, iv 7] [.int 7, .int 7]) (fun t k => X0.arraylength hx (cell := cl24) (by rw [e0]; exact Ar24.1) (State.isArrayOf_alike hZ.alike Ar24.2.1) (g := (mkF m 11 #[rv wb, rv sb, iv 7] [.ref wb, .int 7])) rfl rfl (hb hby d16_11) t (by rw [ln24]; exact k)) ?_
                  refine own_s s₁ (mkF m 32 #[rv wb, rv sb, iv 7] []) (fun t k => XS.icmpYes X0.here hx rfl (pc0 := 12) (pc' := 32) rfl (hb hby d16_12) rfl (flt (by decide : ¬ ((7 : Int32) < (7 : Int32)))).2.1 (by decide) (by decide) k) ?_
                  refine own_s s₁ (mkF m 33 #[rv wb, rv sb, iv 7] [.int 1]) (fun t k => XS.iconst X0.here hx rfl (hb hby d16_32) k) ?_
                  refine own_rN X0 hx hlk Bd.returns (by simp) (hb hby d16_33) ?_ (by decide) (by decide)
                  rw [e0]
                  exact ⟨congrArg (fun z => some (Value.int z)) (Eq.symm (own_bT (by first | (rw [hq0, hq1, hq2, hq3, hq4, hq5, hq6]; done) | (rw [hq0, hq1, hq2, hq3, hq4, hq5, hq6]; rfl)))), N0, rfl⟩
                · refine own_s s₁ (mkF m 24 #[rv wb, rv sb, iv 6] []) (fun t k => XS.icmpNo X0.here hx rfl (hb hby d16_21) rfl (feq hq6).1 k) ?_
                  refine own_s s₁ (mkF m 25 #[rv wb, rv sb, iv 6] [.int 0]) (fun t k => XS.iconst X0.here hx rfl (hb hby d16_24) k) ?_
                  refine own_rN X0 hx hlk Bd.returns (by simp) (hb hby d16_25) ?_ (by decide) (by decide)
                  rw [e0]
                  exact ⟨congrArg (fun z => some (Value.int z)) (Eq.symm (own_bF (fun q => hq6 (by simp only [own_LI, List.cons.injEq, Value.int.injEq] at q; exact q.2.2.2.2.2.2.1)))), N0, rfl⟩
              · refine own_s s₁ (mkF m 24 #[rv wb, rv sb, iv 5] []) (fun t k => XS.icmpNo X0.here hx rfl (hb hby d16_21) rfl (feq hq5).1 k) ?_
                refine own_s s₁ (mkF m 25 #[rv wb, rv sb, iv 5] [.int 0]) (fun t k => XS.iconst X0.here hx rfl (hb hby d16_24) k) ?_
                refine own_rN X0 hx hlk Bd.returns (by simp) (hb hby d16_25) ?_ (by decide) (by decide)
                rw [e0]
                exact ⟨congrArg (fun z => some (Value.int z)) (Eq.symm (own_bF (fun q => hq5 (by simp only [own_LI, List.cons.injEq, Value.int.injEq] at q; exact q.2.2.2.2.2.1)))), N0, rfl⟩
            · refine own_s s₁ (mkF m 24 #[rv wb, rv sb, iv 4] []) (fun t k => XS.icmpNo X0.here hx rfl (hb hby d16_21) rfl (feq hq4).1 k) ?_
              refine own_s s₁ (mkF m 25 #[rv wb, rv sb, iv 4] [.int 0]) (fun t k => XS.iconst X0.here hx rfl (hb hby d16_24) k) ?_
              refine own_rN X0 hx hlk Bd.returns (by simp) (hb hby d16_25) ?_ (by decide) (by decide)
              rw [e0]
              exact ⟨congrArg (fun z => some (Value.int z)) (Eq.symm (own_bF (fun q => hq4 (by simp only [own_LI, List.cons.injEq, Value.int.injEq] at q; exact q.2.2.2.2.1)))), N0, rfl⟩
          · refine own_s s₁ (mkF m 24 #[rv wb, rv sb, iv 3] []) (fun t k => XS.icmpNo X0.here hx rfl (hb hby d16_21) rfl (feq hq3).1 k) ?_
            refine own_s s₁ (mkF m 25 #[rv wb, rv sb, iv 3] [.int 0]) (fun t k => XS.iconst X0.here hx rfl (hb hby d16_24) k) ?_
            refine own_rN X0 hx hlk Bd.returns (by simp) (hb hby d16_25) ?_ (by decide) (by decide)
            rw [e0]
            exact ⟨congrArg (fun z => some (Value.int z)) (Eq.symm (own_bF (fun q => hq3 (by simp only [own_LI, List.cons.injEq, Value.int.injEq] at q; exact q.2.2.2.1)))), N0, rfl⟩
        · refine own_s s₁ (mkF m 24 #[rv wb, rv sb, iv 2] []) (fun t k => XS.icmpNo X0.here hx rfl (hb hby d16_21) rfl (feq hq2).1 k) ?_
          refine own_s s₁ (mkF m 25 #[rv wb, rv sb, iv 2] [.int 0]) (fun t k => XS.iconst X0.here hx rfl (hb hby d16_24) k) ?_
          refine own_rN X0 hx hlk Bd.returns (by simp) (hb hby d16_25) ?_ (by decide) (by decide)
          rw [e0]
          exact ⟨congrArg (fun z => some (Value.int z)) (Eq.symm (own_bF (fun q => hq2 (by simp only [own_LI, List.cons.injEq, Value.int.injEq] at q; exact q.2.2.1)))), N0, rfl⟩
      · refine own_s s₁ (mkF m 24 #[rv wb, rv sb, iv 1] []) (fun t k => XS.icmpNo X0.here hx rfl (hb hby d16_21) rfl (feq hq1).1 k) ?_
        refine own_s s₁ (mkF m 25 #[rv wb, rv sb, iv 1] [.int 0]) (fun t k => XS.iconst X0.here hx rfl (hb hby d16_24) k) ?_
        refine own_rN X0 hx hlk Bd.returns (by simp) (hb hby d16_25) ?_ (by decide) (by decide)
        rw [e0]
        exact ⟨congrArg (fun z => some (Value.int z)) (Eq.symm (own_bF (fun q => hq1 (by simp only [own_LI, List.cons.injEq, Value.int.injEq] at q; exact q.2.1)))), N0, rfl⟩
    · refine own_s s₁ (mkF m 24 #[rv wb, rv sb, iv 0] []) (fun t k => XS.icmpNo X0.here hx rfl (hb hby d16_21) rfl (feq hq0).1 k) ?_
      refine own_s s₁ (mkF m 25 #[rv wb, rv sb, iv 0] [.int 0]) (fun t k => XS.iconst X0.here hx rfl (hb hby d16_24) k) ?_
      refine own_rN X0 hx hlk Bd.returns (by simp) (hb hby d16_25) ?_ (by decide) (by decide)
      rw [e0]
      exact ⟨congrArg (fun z => some (Value.int z)) (Eq.symm (own_bF (fun q => hq0 (by simp only [own_LI, List.cons.injEq, Value.int.injEq] at q; exact q.1)))), N0, rfl⟩
  · refine own_s s₁ (mkF m 1 #[rv wb, rv sb, u_] [.ref wb]) (fun t k => XS.aloadN X0.here hx rfl (hb hby d16_0) rfl rfl k) ?_
    obtain ⟨cl25, Ar25, qa25, S25, M25, H25, U25⟩ := id F_1
    have ln25 := len_of S25 M25
    refine own_s s₁ (mkF m 2 #[rv wb, rv sb, u_] [.int zn]) (fun t k => X0.arraylength hx (cell := cl25) (by rw [e0]; exact Ar25.1) (State.isArrayOf_alike hZ.alike Ar25.2.1) (g := (mkF m 1 #[rv wb, rv sb, u_] [.ref wb])) rfl rfl (hb hby d16_1) t (by rw [ln25]; exact k)) ?_
    refine own_s s₁ (mkF m 3 #[rv wb, rv sb, u_] [.ref sb, .int zn]) (fun t k => XS.aloadN X0.here hx rfl (hb hby d16_2) rfl rfl k) ?_
    obtain ⟨cl26, Ar26, qa26, S26, M26, H26, U26⟩ := id F_0
    have ln26 := len_of S26 M26
    refine own_s s₁ (mkF m 4 #[rv wb, rv sb, u_] [.int 7, .int zn]) (fun t k => X0.arraylength hx (cell := cl26) (by rw [e0]; exact Ar26.1) (State.isArrayOf_alike hZ.alike Ar26.2.1) (g := (mkF m 3 #[rv wb, rv sb, u_] [.ref sb, .int zn])) rfl rfl (hb hby d16_3) t (by rw [ln26]; exact k)) ?_
    refine own_s s₁ (mkF m 34 #[rv wb, rv sb, u_] []) (fun t k => XS.icmpYes X0.here hx rfl (pc0 := 4) (pc' := 34) rfl (hb hby d16_4) rfl (feq hz).2 (by decide) (by decide) k) ?_
    refine own_s s₁ (mkF m 35 #[rv wb, rv sb, u_] [.int 0]) (fun t k => XS.iconst X0.here hx rfl (hb hby d16_34) k) ?_
    refine own_rN X0 hx hlk Bd.returns (by simp) (hb hby d16_35) ?_ (by decide) (by decide)
    rw [e0]
    exact ⟨congrArg (fun z => some (Value.int z)) (Eq.symm (own_bL (fun q => hz ((own_fT hform).2 q)))), N0, rfl⟩
def Q_leqI0 (Z : State) (wb : Addr) (wk : ClassId) (zn : Int32) (wl : List Value) (sb : Addr) (sk : ClassId) (h0 : Heap) (n0 : Nat) (v : Option Value) (h : Heap) (L : List Loc) : Prop := v = some (.int (own_beq wl own_LI)) ∧ Fr n0 L ∧ h = h0
theorem ef_rm_leqI0 (m : MethodId) (x0 : Addr) (x1 : Addr) : entryFrame m #[(.ref x0), (.ref x1)] 3 = mkF m 0 #[.val (.ref x0), .val (.ref x1), .unset] [] := by first | (simp [entryFrame, mkF, argsToLocals, Value.category]; done) | rfl | (simp [entryFrame, mkF, argsToLocals, Value.category] <;> rfl)
set_option maxRecDepth 65536 in
set_option maxHeartbeats 40000000 in
theorem rm_leqI0 (l : Launch) (Z : State) (a0 : Array Value) (hw : ∀ d ∈ tables_1, d.before a0 Z = true) (ws : List Jvm.Cond) (wb : Addr) (wk : ClassId) (zn : Int32) (wl : List Value) (sb : Addr) (sk : ClassId) (h0 : Heap) (n0 : Nat) (Z0 : n0 ≤ h0.size) (F_0 : Arv Z h0 sb sk .byte (7 : Int32) [(.int (105 : Int32)), (.int (110 : Int32)), (.int (118 : Int32)), (.int (97 : Int32)), (.int (108 : Int32)), (.int (105 : Int32)), (.int (100 : Int32))] (.int (0 : Int32))) (F_1 : Arv Z h0 wb wk .byte zn wl (.int (0 : Int32))) (hform : own_form zn wl) :
    MetFree l (⟨"java/lang/StringLatin1", "equals", "([B[B)Z"⟩ : MethodName) (head1 (Jvm.Cond.code (⟨"java/lang/StringLatin1", "equals", "([B[B)Z"⟩ : MethodName) jdk_43_method_13_code 3 (some (.boolean)) :: ws) ({ frames := 0, cells := 0, slots := 0, locals := 0 } : Room)) (fun a U => a = #[(.ref sb), (.ref wb)] ∧ Z.Warmed39 U.vm ∧ U.heap = h0) (fun _ _ _ _ _ => True) (fun _ U o U' => ∃ v L, o = .returned v ∧ (Q_leqI0 Z wb wk zn wl sb sk h0 n0) v U'.heap L ∧ FrameEnd U o U' L ({ frames := 0, cells := 0, slots := 0, locals := 0 } : Room).cells ({ frames := 0, cells := 0, slots := 0, locals := 0 } : Room).slots) := by
  refine MetFree.of_bodySF (plainFor_of_name pn_2) hisR ?_
  intro p e s m args below meth c s₁ Bd hml0 hP hK
  obtain ⟨rfl, hZ, hh⟩ := hP
  have hx := Bd.exec
  have hby := Bd.bytes
  have hW := fun i d (h : tables_1[i]? = some d) => hw d (List.mem_of_getElem? h)
  have hlk : meth.locks = false := BodyLoose.notSynchronized Bd
  have hml : c.maxLocals = 3 := hml0
  have hown : s.vm.findClass "java/lang/StringLatin1" = some m.cls := findClass_of_methodNamed Bd.named
  have hnm := (name_of_methodNamed Bd.named Bd.method).1
  have X0 : Stand p l e ({ frames := 0, cells := 0, slots := 0, locals := 0 } : Room) s m #[(.ref sb), (.ref wb)] below meth c s₁ [] 0 0 := Stand.of_body Bd
  have e0 : s₁.heap = h0 := by rw [← hh, Bd.state]; rfl
  have N0 := Fr.nil n0
  show own_Go p e below s (Q_leqI0 Z wb wk zn wl sb sk h0 n0) ({ frames := 0, cells := 0, slots := 0, locals := 0 } : Room).cells ({ frames := 0, cells := 0, slots := 0, locals := 0 } : Room).slots s₁ (entryFrame m #[(.ref sb), (.ref wb)] 3)
  refine own_cast (g' := (mkF m 0 #[rv sb, rv wb, u_] [])) (ef_rm_leqI0 m sb wb) ?_
  by_cases hz : zn = (7 : Int32)
  · subst hz
    obtain ⟨c0, c1, c2, c3, c4, c5, c6, rfl⟩ := own_f7 hform
    refine own_s s₁ (mkF m 1 #[rv sb, rv wb, u_] [.ref sb]) (fun t k => XS.aloadN X0.here hx rfl (hb hby d16_0) rfl rfl k) ?_
    obtain ⟨cl1, Ar1, qa1, S1, M1, H1, U1⟩ := id F_0
    have ln1 := len_of S1 M1
    refine own_s s₁ (mkF m 2 #[rv sb, rv wb, u_] [.int 7]) (fun t k => X0.arraylength hx (cell := cl1) (by rw [e0]; exact Ar1.1) (State.isArrayOf_alike hZ.alike Ar1.2.1) (g := (mkF m 1 #[rv sb, rv wb, u_] [.ref sb])) rfl rfl (hb hby d16_1) t (by rw [ln1]; exact k)) ?_
    refine own_s s₁ (mkF m 3 #[rv sb, rv wb, u_] [.ref wb, .int 7]) (fun t k => XS.aloadN X0.here hx rfl (hb hby d16_2) rfl rfl k) ?_
    obtain ⟨cl2, Ar2, qa2, S2, M2, H2, U2⟩ := id F_1
    have ln2 := len_of S2 M2
    refine own_s s₁ (mkF m 4 #[rv sb, rv wb, u_] [.int 7, .int 7]) (fun t k => X0.arraylength hx (cell := cl2) (by rw [e0]; exact Ar2.1) (State.isArrayOf_alike hZ.alike Ar2.2.1) (g := (mkF m 3 #[rv sb, rv wb, u_] [.ref wb, .int 7])) rfl rfl (hb hby d16_3) t (by rw [ln2]; exact k)) ?_
    refine own_s s₁ (mkF m 7 #[rv sb, rv wb, u_] []) (fun t k => XS.icmpNo X0.here hx rfl (hb hby d16_4) rfl (teq (by decide : ((7 : Int32) = (7 : Int32)))).2 k) ?_
    refine own_s s₁ (mkF m 8 #[rv sb, rv wb, u_] [.int 0]) (fun t k => XS.iconst X0.here hx rfl (hb hby d16_7) k) ?_
    refine own_s s₁ (mkF m 9 #[rv sb, rv wb, iv 0] []) (fun t k => XS.istoreN X0.here hx rfl (hb hby d16_8) rfl (l' := #[rv sb, rv wb, iv 0]) rfl k) ?_
    refine own_s s₁ (mkF m 10 #[rv sb, rv wb, iv 0] [.int 0]) (fun t k => XS.iloadN X0.here hx rfl (hb hby d16_9) rfl k) ?_
    refine own_s s₁ (mkF m 11 #[rv sb, rv wb, iv 0] [.ref sb, .int 0]) (fun t k => XS.aloadN X0.here hx rfl (hb hby d16_10) rfl rfl k) ?_
    obtain ⟨cl3, Ar3, qa3, S3, M3, H3, U3⟩ := id F_0
    have ln3 := len_of S3 M3
    refine own_s s₁ (mkF m 12 #[rv sb, rv wb, iv 0] [.int 7, .int 0]) (fun t k => X0.arraylength hx (cell := cl3) (by rw [e0]; exact Ar3.1) (State.isArrayOf_alike hZ.alike Ar3.2.1) (g := (mkF m 11 #[rv sb, rv wb, iv 0] [.ref sb, .int 0])) rfl rfl (hb hby d16_11) t (by rw [ln3]; exact k)) ?_
    refine own_s s₁ (mkF m 15 #[rv sb, rv wb, iv 0] []) (fun t k => XS.icmpNo X0.here hx rfl (hb hby d16_12) rfl (tlt (by decide : ((0 : Int32) < (7 : Int32)))).2.1 k) ?_
    refine own_s s₁ (mkF m 16 #[rv sb, rv wb, iv 0] [.ref sb]) (fun t k => XS.aloadN X0.here hx rfl (hb hby d16_15) rfl rfl k) ?_
    refine own_s s₁ (mkF m 17 #[rv sb, rv wb, iv 0] [.int 0, .ref sb]) (fun t k => XS.iloadN X0.here hx rfl (hb hby d16_16) rfl k) ?_
    obtain ⟨cl4, Ar4, qa4, S4, M4, H4, U4⟩ := id F_0
    have hi4 := inb_of S4 (j := (0 : Int32)) ⟨by decide, by decide⟩
    have hat4 := H4.at hi4 (v := (.int (105 : Int32))) rfl
    refine own_s s₁ (mkF m 18 #[rv sb, rv wb, iv 0] [.int 105]) (fun t k => X0.baloadBytes hx (j := (0 : Int32)) (v := (.int (105 : Int32))) (by rw [e0]; exact Ar4.1) (State.isArrayOf_alike hZ.alike Ar4.2.1) Ar4.2.2 hi4 hat4 (g := (mkF m 17 #[rv sb, rv wb, iv 0] [.int 0, .ref sb])) rfl rfl (hb hby d16_17) t k) ?_
    refine own_s s₁ (mkF m 19 #[rv sb, rv wb, iv 0] [.ref wb, .int 105]) (fun t k => XS.aloadN X0.here hx rfl (hb hby d16_18) rfl rfl k) ?_
    refine own_s s₁ (mkF m 20 #[rv sb, rv wb, iv 0] [.int 0, .ref wb, .int 105]) (fun t k => XS.iloadN X0.here hx rfl (hb hby d16_19) rfl k) ?_
    obtain ⟨cl5, Ar5, qa5, S5, M5, H5, U5⟩ := id F_1
    have hi5 := inb_of S5 (j := (0 : Int32)) ⟨by decide, by decide⟩
    have hat5 := H5.at hi5 (v := (.int c0)) rfl
    refine own_s s₁ (mkF m 21 #[rv sb, rv wb, iv 0] [.int c0, .int 105]) (fun t k => X0.baloadBytes hx (j := (0 : Int32)) (v := (.int c0)) (by rw [e0]; exact Ar5.1) (State.isArrayOf_alike hZ.alike Ar5.2.1) Ar5.2.2 hi5 hat5 (g := (mkF m 20 #[rv sb, rv wb, iv 0] [.int 0, .ref wb, .int 105])) rfl rfl (hb hby d16_20) t k) ?_
    by_cases hq0 : (105 : Int32) = c0
    · refine own_s s₁ (mkF m 26 #[rv sb, rv wb, iv 0] []) (fun t k => XS.icmpYes X0.here hx rfl (pc0 := 21) (pc' := 26) rfl (hb hby d16_21) rfl (teq hq0).1 (by decide) (by decide) k) ?_
      refine own_s s₁ (mkF m 29 #[rv sb, rv wb, iv 1] []) (fun t k => XS.iinc X0.here hx rfl (hb hby d16_26) rfl (l' := #[rv sb, rv wb, iv 1]) rfl k) ?_
      refine own_s s₁ (mkF m 9 #[rv sb, rv wb, iv 1] []) (fun t k => XS.goto X0.here hx rfl (pc0 := 29) (pc' := 9) rfl (hb hby d16_29) (by decide) (by decide) k) ?_
      refine own_s s₁ (mkF m 10 #[rv sb, rv wb, iv 1] [.int 1]) (fun t k => XS.iloadN X0.here hx rfl (hb hby d16_9) rfl k) ?_
      refine own_s s₁ (mkF m 11 #[rv sb, rv wb, iv 1] [.ref sb, .int 1]) (fun t k => XS.aloadN X0.here hx rfl (hb hby d16_10) rfl rfl k) ?_
      obtain ⟨cl6, Ar6, qa6, S6, M6, H6, U6⟩ := id F_0
      have ln6 := len_of S6 M6
      refine own_s s₁ (mkF m 12 #[rv sb, rv wb, iv 1] [.int 7, .int 1]) (fun t k => X0.arraylength hx (cell := cl6) (by rw [e0]; exact Ar6.1) (State.isArrayOf_alike hZ.alike Ar6.2.1) (g := (mkF m 11 #[rv sb, rv wb, iv 1] [.ref sb, .int 1])) rfl rfl (hb hby d16_11) t (by rw [ln6]; exact k)) ?_
      refine own_s s₁ (mkF m 15 #[rv sb, rv wb, iv 1] []) (fun t k => XS.icmpNo X0.here hx rfl (hb hby d16_12) rfl (tlt (by decide : ((1 : Int32) < (7 : Int32)))).2.1 k) ?_
      refine own_s s₁ (mkF m 16 #[rv sb, rv wb, iv 1] [.ref sb]) (fun t k => XS.aloadN X0.here hx rfl (hb hby d16_15) rfl rfl k) ?_
      refine own_s s₁ (mkF m 17 #[rv sb, rv wb, iv 1] [.int 1, .ref sb]) (fun t k => XS.iloadN X0.here hx rfl (hb hby d16_16) rfl k) ?_
      obtain ⟨cl7, Ar7, qa7, S7, M7, H7, U7⟩ := id F_0
      have hi7 := inb_of S7 (j := (1 : Int32)) ⟨by decide, by decide⟩
      have hat7 := H7.at hi7 (v := (.int (110 : Int32))) rfl
      refine own_s s₁ (mkF m 18 #[rv sb, rv wb, iv 1] [.int 110]) (fun t k => X0.baloadBytes hx (j := (1 : Int32)) (v := (.int (110 : Int32))) (by rw [e0]; exact Ar7.1) (State.isArrayOf_alike hZ.alike Ar7.2.1) Ar7.2.2 hi7 hat7 (g := (mkF m 17 #[rv sb, rv wb, iv 1] [.int 1, .ref sb])) rfl rfl (hb hby d16_17) t k) ?_
      refine own_s s₁ (mkF m 19 #[rv sb, rv wb, iv 1] [.ref wb, .int 110]) (fun t k => XS.aloadN X0.here hx rfl (hb hby d16_18) rfl rfl k) ?_
      refine own_s s₁ (mkF m 20 #[rv sb, rv wb, iv 1] [.int 1, .ref wb, .int 110]) (fun t k => XS.iloadN X0.here hx rfl (hb hby d16_19) rfl k) ?_
      obtain ⟨cl8, Ar8, qa8, S8, M8, H8, U8⟩ := id F_1
      have hi8 := inb_of S8 (j := (1 : Int32)) ⟨by decide, by decide⟩
      have hat8 := H8.at hi8 (v := (.int c1)) rfl
      refine own_s s₁ (mkF m 21 #[rv sb, rv wb, iv 1] [.int c1, .int 110]) (fun t k => X0.baloadBytes hx (j := (1 : Int32)) (v := (.int c1)) (by rw [e0]; exact Ar8.1) (State.isArrayOf_alike hZ.alike Ar8.2.1) Ar8.2.2 hi8 hat8 (g := (mkF m 20 #[rv sb, rv wb, iv 1] [.int 1, .ref wb, .int 110])) rfl rfl (hb hby d16_20) t k) ?_
      by_cases hq1 : (110 : Int32) = c1
      · refine own_s s₁ (mkF m 26 #[rv sb, rv wb, iv 1] []) (fun t k => XS.icmpYes X0.here hx rfl (pc0 := 21) (pc' := 26) rfl (hb hby d16_21) rfl (teq hq1).1 (by decide) (by decide) k) ?_
        refine own_s s₁ (mkF m 29 #[rv sb, rv wb, iv 2] []) (fun t k => XS.iinc X0.here hx rfl (hb hby d16_26) rfl (l' := #[rv sb, rv wb, iv 2]) rfl k) ?_
        refine own_s s₁ (mkF m 9 #[rv sb, rv wb, iv 2] []) (fun t k => XS.goto X0.here hx rfl (pc0 := 29) (pc' := 9) rfl (hb hby d16_29) (by decide) (by decide) k) ?_
        refine own_s s₁ (mkF m 10 #[rv sb, rv wb, iv 2] [.int 2]) (fun t k => XS.iloadN X0.here hx rfl (hb hby d16_9) rfl k) ?_
        refine own_s s₁ (mkF m 11 #[rv sb, rv wb, iv 2] [.ref sb, .int 2]) (fun t k => XS.aloadN X0.here hx rfl (hb hby d16_10) rfl rfl k) ?_
        obtain ⟨cl9, Ar9, qa9, S9, M9, H9, U9⟩ := id F_0
        have ln9 := len_of S9 M9
        refine own_s s₁ (mkF m 12 #[rv sb, rv wb, iv 2] [.int 7, .int 2]) (fun t k => X0.arraylength hx (cell := cl9) (by rw [e0]; exact Ar9.1) (State.isArrayOf_alike hZ.alike Ar9.2.1) (g := (mkF m 11 #[rv sb, rv wb, iv 2] [.ref sb, .int 2])) rfl rfl (hb hby d16_11) t (by rw [ln9]; exact k)) ?_
        refine own_s s₁ (mkF m 15 #[rv sb, rv wb, iv 2] []) (fun t k => XS.icmpNo X0.here hx rfl (hb hby d16_12) rfl (tlt (by decide : ((2 : Int32) < (7 : Int32)))).2.1 k) ?_
        refine own_s s₁ (mkF m 16 #[rv sb, rv wb, iv 2] [.ref sb]) (fun t k => XS.aloadN X0.here hx rfl (hb hby d16_15) rfl rfl k) ?_
        refine own_s s₁ (mkF m 17 #[rv sb, rv wb, iv 2] [.int 2, .ref sb]) (fun t k => XS.iloadN X0.here hx rfl (hb hby d16_16) rfl k) ?_
        obtain ⟨cl10, Ar10, qa10, S10, M10, H10, U10⟩ := id F_0
        have hi10 := inb_of S10 (j := (2 : Int32)) ⟨by decide, by decide⟩
        have hat10 := H10.at hi10 (v := (.int (118 : Int32))) rfl
        refine own_s s₁ (mkF m 18 #[rv sb, rv wb, iv 2] [.int 118]) (fun t k => X0.baloadBytes hx (j := (2 : Int32)) (v := (.int (118 : Int32))) (by rw [e0]; exact Ar10.1) (State.isArrayOf_alike hZ.alike Ar10.2.1) Ar10.2.2 hi10 hat10 (g := (mkF m 17 #[rv sb, rv wb, iv 2] [.int 2, .ref sb])) rfl rfl (hb hby d16_17) t k) ?_
        refine own_s s₁ (mkF m 19 #[rv sb, rv wb, iv 2] [.ref wb, .int 118]) (fun t k => XS.aloadN X0.here hx rfl (hb hby d16_18) rfl rfl k) ?_
        refine own_s s₁ (mkF m 20 #[rv sb, rv wb, iv 2] [.int 2, .ref wb, .int 118]) (fun t k => XS.iloadN X0.here hx rfl (hb hby d16_19) rfl k) ?_
        obtain ⟨cl11, Ar11, qa11, S11, M11, H11, U11⟩ := id F_1
        have hi11 := inb_of S11 (j := (2 : Int32)) ⟨by decide, by decide⟩
        have hat11 := H11.at hi11 (v := (.int c2)) rfl
        refine own_s s₁ (mkF m 21 #[rv sb, rv wb, iv 2] [.int c2, .int 118]) (fun t k => X0.baloadBytes hx (j := (2 : Int32)) (v := (.int c2)) (by rw [e0]; exact Ar11.1) (State.isArrayOf_alike hZ.alike Ar11.2.1) Ar11.2.2 hi11 hat11 (g := (mkF m 20 #[rv sb, rv wb, iv 2] [.int 2, .ref wb, .int 118])) rfl rfl (hb hby d16_20) t k) ?_
        by_cases hq2 : (118 : Int32) = c2
        · refine own_s s₁ (mkF m 26 #[rv sb, rv wb, iv 2] []) (fun t k => XS.icmpYes X0.here hx rfl (pc0 := 21) (pc' := 26) rfl (hb hby d16_21) rfl (teq hq2).1 (by decide) (by decide) k) ?_
          refine own_s s₁ (mkF m 29 #[rv sb, rv wb, iv 3] []) (fun t k => XS.iinc X0.here hx rfl (hb hby d16_26) rfl (l' := #[rv sb, rv wb, iv 3]) rfl k) ?_
          refine own_s s₁ (mkF m 9 #[rv sb, rv wb, iv 3] []) (fun t k => XS.goto X0.here hx rfl (pc0 := 29) (pc' := 9) rfl (hb hby d16_29) (by decide) (by decide) k) ?_
          refine own_s s₁ (mkF m 10 #[rv sb, rv wb, iv 3] [.int 3]) (fun t k => XS.iloadN X0.here hx rfl (hb hby d16_9) rfl k) ?_
          refine own_s s₁ (mkF m 11 #[rv sb, rv wb, iv 3] [.ref sb, .int 3]) (fun t k => XS.aloadN X0.here hx rfl (hb hby d16_10) rfl rfl k) ?_
          obtain ⟨cl12, Ar12, qa12, S12, M12, H12, U12⟩ := id F_0
          have ln12 := len_of S12 M12
          refine own_s s₁ (mkF m 12 #[rv sb, rv wb, iv 3] [.int 7, .int 3]) (fun t k => X0.arraylength hx (cell := cl12) (by rw [e0]; exact Ar12.1) (State.isArrayOf_alike hZ.alike Ar12.2.1) (g := (mkF m 11 #[rv sb, rv wb, iv 3] [.ref sb, .int 3])) rfl rfl (hb hby d16_11) t (by rw [ln12]; exact k)) ?_
          refine own_s s₁ (mkF m 15 #[rv sb, rv wb, iv 3] []) (fun t k => XS.icmpNo X0.here hx rfl (hb hby d16_12) rfl (tlt (by decide : ((3 : Int32) < (7 : Int32)))).2.1 k) ?_
          refine own_s s₁ (mkF m 16 #[rv sb, rv wb, iv 3] [.ref sb]) (fun t k => XS.aloadN X0.here hx rfl (hb hby d16_15) rfl rfl k) ?_
          refine own_s s₁ (mkF m 17 #[rv sb, rv wb, iv 3] [.int 3, .ref sb]) (fun t k => XS.iloadN X0.here hx rfl (hb hby d16_16) rfl k) ?_
          obtain ⟨cl13, Ar13, qa13, S13, M13, H13, U13⟩ := id F_0
          have hi13 := inb_of S13 (j := (3 : Int32)) ⟨by decide, by decide⟩
          have hat13 := H13.at hi13 (v := (.int (97 : Int32))) rfl
          refine own_s s₁ (mkF m 18 #[rv sb, rv wb, iv 3] [.int 97]) (fun t k => X0.baloadBytes hx (j := (3 : Int32)) (v := (.int (97 : Int32))) (by rw [e0]; exact Ar13.1) (State.isArrayOf_alike hZ.alike Ar13.2.1) Ar13.2.2 hi13 hat13 (g := (mkF m 17 #[rv sb, rv wb, iv 3] [.int 3, .ref sb])) rfl rfl (hb hby d16_17) t k) ?_
          refine own_s s₁ (mkF m 19 #[rv sb, rv wb, iv 3] [.ref wb, .int 97]) (fun t k => XS.aloadN X0.here hx rfl (hb hby d16_18) rfl rfl k) ?_
          refine own_s s₁ (mkF m 20 #[rv sb, rv wb, iv 3] [.int 3, .ref wb, .int 97]) (fun t k => XS.iloadN X0.here hx rfl (hb hby d16_19) rfl k) ?_
          obtain ⟨cl14, Ar14, qa14, S14, M14, H14, U14⟩ := id F_1
          have hi14 := inb_of S14 (j := (3 : Int32)) ⟨by decide, by decide⟩
          have hat14 := H14.at hi14 (v := (.int c3)) rfl
          refine own_s s₁ (mkF m 21 #[rv sb, rv wb, iv 3] [.int c3, .int 97]) (fun t k => X0.baloadBytes hx (j := (3 : Int32)) (v := (.int c3)) (by rw [e0]; exact Ar14.1) (State.isArrayOf_alike hZ.alike Ar14.2.1) Ar14.2.2 hi14 hat14 (g := (mkF m 20 #[rv sb, rv wb, iv 3] [.int 3, .ref wb, .int 97])) rfl rfl (hb hby d16_20) t k) ?_
          by_cases hq3 : (97 : Int32) = c3
          · refine own_s s₁ (mkF m 26 #[rv sb, rv wb, iv 3] []) (fun t k => XS.icmpYes X0.here hx rfl (pc0 := 21) (pc' := 26) rfl (hb hby d16_21) rfl (teq hq3).1 (by decide) (by decide) k) ?_
            refine own_s s₁ (mkF m 29 #[rv sb, rv wb, iv 4] []) (fun t k => XS.iinc X0.here hx rfl (hb hby d16_26) rfl (l' := #[rv sb, rv wb, iv 4]) rfl k) ?_
            refine own_s s₁ (mkF m 9 #[rv sb, rv wb, iv 4] []) (fun t k => XS.goto X0.here hx rfl (pc0 := 29) (pc' := 9) rfl (hb hby d16_29) (by decide) (by decide) k) ?_
            refine own_s s₁ (mkF m 10 #[rv sb, rv wb, iv 4] [.int 4]) (fun t k => XS.iloadN X0.here hx rfl (hb hby d16_9) rfl k) ?_
            refine own_s s₁ (mkF m 11 #[rv sb, rv wb, iv 4] [.ref sb, .int 4]) (fun t k => XS.aloadN X0.here hx rfl (hb hby d16_10) rfl rfl k) ?_
            obtain ⟨cl15, Ar15, qa15, S15, M15, H15, U15⟩ := id F_0
            have ln15 := len_of S15 M15
            refine own_s s₁ (mkF m 12 #[rv sb, rv wb, iv 4] [.int 7, .int 4]) (fun t k => X0.arraylength hx (cell := cl15) (by rw [e0]; exact Ar15.1) (State.isArrayOf_alike hZ.alike Ar15.2.1) (g := (mkF m 11 #[rv sb, rv wb, iv 4] [.ref sb, .int 4])) rfl rfl (hb hby d16_11) t (by rw [ln15]; exact k)) ?_
            refine own_s s₁ (mkF m 15 #[rv sb, rv wb, iv 4] []) (fun t k => XS.icmpNo X0.here hx rfl (hb hby d16_12) rfl (tlt (by decide : ((4 : Int32) < (7 : Int32)))).2.1 k) ?_
            refine own_s s₁ (mkF m 16 #[rv sb, rv wb, iv 4] [.ref sb]) (fun t k => XS.aloadN X0.here hx rfl (hb hby d16_15) rfl rfl k) ?_
            refine own_s s₁ (mkF m 17 #[rv sb, rv wb, iv 4] [.int 4, .ref sb]) (fun t k => XS.iloadN X0.here hx rfl (hb hby d16_16) rfl k) ?_
            obtain ⟨cl16, Ar16, qa16, S16, M16, H16, U16⟩ := id F_0
            have hi16 := inb_of S16 (j := (4 : Int32)) ⟨by decide, by decide⟩
            have hat16 := H16.at hi16 (v := (.int (108 : Int32))) rfl
            refine own_s s₁ (mkF m 18 #[rv sb, rv wb, iv 4] [.int 108]) (fun t k => X0.baloadBytes hx (j := (4 : Int32)) (v := (.int (108 : Int32))) (by rw [e0]; exact Ar16.1) (State.isArrayOf_alike hZ.alike Ar16.2.1) Ar16.2.2 hi16 hat16 (g := (mkF m 17 #[rv sb, rv wb, iv 4] [.int 4, .ref sb])) rfl rfl (hb hby d16_17) t k) ?_
            refine own_s s₁ (mkF m 19 #[rv sb, rv wb, iv 4] [.ref wb, .int 108]) (fun t k => XS.aloadN X0.here hx rfl (hb hby d16_18) rfl rfl k) ?_
            refine own_s s₁ (mkF m 20 #[rv sb, rv wb, iv 4] [.int 4, .ref wb, .int 108]) (fun t k => XS.iloadN X0.here hx rfl (hb hby d16_19) rfl k) ?_
            obtain ⟨cl17, Ar17, qa17, S17, M17, H17, U17⟩ := id F_1
            have hi17 := inb_of S17 (j := (4 : Int32)) ⟨by decide, by decide⟩
            have hat17 := H17.at hi17 (v := (.int c4)) rfl
            refine own_s s₁ (mkF m 21 #[rv sb, rv wb, iv 4] [.int c4, .int 108]) (fun t k => X0.baloadBytes hx (j := (4 : Int32)) (v := (.int c4)) (by rw [e0]; exact Ar17.1) (State.isArrayOf_alike hZ.alike Ar17.2.1) Ar17.2.2 hi17 hat17 (g := (mkF m 20 #[rv sb, rv wb, iv 4] [.int 4, .ref wb, .int 108])) rfl rfl (hb hby d16_20) t k) ?_
            by_cases hq4 : (108 : Int32) = c4
            · refine own_s s₁ (mkF m 26 #[rv sb, rv wb, iv 4] []) (fun t k => XS.icmpYes X0.here hx rfl (pc0 := 21) (pc' := 26) rfl (hb hby d16_21) rfl (teq hq4).1 (by decide) (by decide) k) ?_
              refine own_s s₁ (mkF m 29 #[rv sb, rv wb, iv 5] []) (fun t k => XS.iinc X0.here hx rfl (hb hby d16_26) rfl (l' := #[rv sb, rv wb, iv 5]) rfl k) ?_
              refine own_s s₁ (mkF m 9 #[rv sb, rv wb, iv 5] []) (fun t k => XS.goto X0.here hx rfl (pc0 := 29) (pc' := 9) rfl (hb hby d16_29) (by decide) (by decide) k) ?_
              refine own_s s₁ (mkF m 10 #[rv sb, rv wb, iv 5] [.int 5]) (fun t k => XS.iloadN X0.here hx rfl (hb hby d16_9) rfl k) ?_
              refine own_s s₁ (mkF m 11 #[rv sb, rv wb, iv 5] [.ref sb, .int 5]) (fun t k => XS.aloadN X0.here hx rfl (hb hby d16_10) rfl rfl k) ?_
              obtain ⟨cl18, Ar18, qa18, S18, M18, H18, U18⟩ := id F_0
              have ln18 := len_of S18 M18
              refine own_s s₁ (mkF m 12 #[rv sb, rv wb, iv 5] [.int 7, .int 5]) (fun t k => X0.arraylength hx (cell := cl18) (by rw [e0]; exact Ar18.1) (State.isArrayOf_alike hZ.alike Ar18.2.1) (g := (mkF m 11 #[rv sb, rv wb, iv 5] [.ref sb, .int 5])) rfl rfl (hb hby d16_11) t (by rw [ln18]; exact k)) ?_
              refine own_s s₁ (mkF m 15 #[rv sb, rv wb, iv 5] []) (fun t k => XS.icmpNo X0.here hx rfl (hb hby d16_12) rfl (tlt (by decide : ((5 : Int32) < (7 : Int32)))).2.1 k) ?_
              refine own_s s₁ (mkF m 16 #[rv sb, rv wb, iv 5] [.ref sb]) (fun t k => XS.aloadN X0.here hx rfl (hb hby d16_15) rfl rfl k) ?_
              refine own_s s₁ (mkF m 17 #[rv sb, rv wb, iv 5] [.int 5, .ref sb]) (fun t k => XS.iloadN X0.here hx rfl (hb hby d16_16) rfl k) ?_
              obtain ⟨cl19, Ar19, qa19, S19, M19, H19, U19⟩ := id F_0
              have hi19 := inb_of S19 (j := (5 : Int32)) ⟨by decide, by decide⟩
              have hat19 := H19.at hi19 (v := (.int (105 : Int32))) rfl
              refine own_s s₁ (mkF m 18 #[rv sb, rv wb, iv 5] [.int 105]) (fun t k => X0.baloadBytes hx (j := (5 : Int32)) (v := (.int (105 : Int32))) (by rw [e0]; exact Ar19.1) (State.isArrayOf_alike hZ.alike Ar19.2.1) Ar19.2.2 hi19 hat19 (g := (mkF m 17 #[rv sb, rv wb, iv 5] [.int 5, .ref sb])) rfl rfl (hb hby d16_17) t k) ?_
              refine own_s s₁ (mkF m 19 #[rv sb, rv wb, iv 5] [.ref wb, .int 105]) (fun t k => XS.aloadN X0.here hx rfl (hb hby d16_18) rfl rfl k) ?_
              refine own_s s₁ (mkF m 20 #[rv sb, rv wb, iv 5] [.int 5, .ref wb, .int 105]) (fun t k => XS.iloadN X0.here hx rfl (hb hby d16_19) rfl k) ?_
              obtain ⟨cl20, Ar20, qa20, S20, M20, H20, U20⟩ := id F_1
              have hi20 := inb_of S20 (j := (5 : Int32)) ⟨by decide, by decide⟩
              have hat20 := H20.at hi20 (v := (.int c5)) rfl
              refine own_s s₁ (mkF m 21 #[rv sb, rv wb, iv 5] [.int c5, .int 105]) (fun t k => X0.baloadBytes hx (j := (5 : Int32)) (v := (.int c5)) (by rw [e0]; exact Ar20.1) (State.isArrayOf_alike hZ.alike Ar20.2.1) Ar20.2.2 hi20 hat20 (g := (mkF m 20 #[rv sb, rv wb, iv 5] [.int 5, .ref wb, .int 105])) rfl rfl (hb hby d16_20) t k) ?_
              by_cases hq5 : (105 : Int32) = c5
              · refine own_s s₁ (mkF m 26 #[rv sb, rv wb, iv 5] []) (fun t k => XS.icmpYes X0.here hx rfl (pc0 := 21) (pc' := 26) rfl (hb hby d16_21) rfl (teq hq5).1 (by decide) (by decide) k) ?_
                refine own_s s₁ (mkF m 29 #[rv sb, rv wb, iv 6] []) (fun t k => XS.iinc X0.here hx rfl (hb hby d16_26) rfl (l' := #[rv sb, rv wb, iv 6]) rfl k) ?_
                refine own_s s₁ (mkF m 9 #[rv sb, rv wb, iv 6] []) (fun t k => XS.goto X0.here hx rfl (pc0 := 29) (pc' := 9) rfl (hb hby d16_29) (by decide) (by decide) k) ?_
                refine own_s s₁ (mkF m 10 #[rv sb, rv wb, iv 6] [.int 6]) (fun t k => XS.iloadN X0.here hx rfl (hb hby d16_9) rfl k) ?_
                refine own_s s₁ (mkF m 11 #[rv sb, rv wb, iv 6] [.ref sb, .int 6]) (fun t k => XS.aloadN X0.here hx rfl (hb hby d16_10) rfl rfl k) ?_
                obtain ⟨cl21, Ar21, qa21, S21, M21, H21, U21⟩ := id F_0
                have ln21 := len_of S21 M21
                refine own_s s₁ (mkF m 12 #[rv sb, rv wb, iv 6] [.int 7, .int 6]) (fun t k => X0.arraylength hx (cell := cl21) (by rw [e0]; exact Ar21.1) (State.isArrayOf_alike hZ.alike Ar21.2.1) (g := (mkF m 11 #[rv sb, rv wb, iv 6] [.ref sb, .int 6])) rfl rfl (hb hby d16_11) t (by rw [ln21]; exact k)) ?_
                refine own_s s₁ (mkF m 15 #[rv sb, rv wb, iv 6] []) (fun t k => XS.icmpNo X0.here hx rfl (hb hby d16_12) rfl (tlt (by decide : ((6 : Int32) < (7 : Int32)))).2.1 k) ?_
                refine own_s s₁ (mkF m 16 #[rv sb, rv wb, iv 6] [.ref sb]) (fun t k => XS.aloadN X0.here hx rfl (hb hby d16_15) rfl rfl k) ?_
                refine own_s s₁ (mkF m 17 #[rv sb, rv wb, iv 6] [.int 6, .ref sb]) (fun t k => XS.iloadN X0.here hx rfl (hb hby d16_16) rfl k) ?_
                obtain ⟨cl22, Ar22, qa22, S22, M22, H22, U22⟩ := id F_0
                have hi22 := inb_of S22 (j := (6 : Int32)) ⟨by decide, by decide⟩
                have hat22 := H22.at hi22 (v := (.int (100 : Int32))) rfl
                refine own_s s₁ (mkF m 18 #[rv sb, rv wb, iv 6] [.int 100]) (fun t k => X0.baloadBytes hx (j := (6 : Int32)) (v := (.int (100 : Int32))) (by rw [e0]; exact Ar22.1) (State.isArrayOf_alike hZ.alike Ar22.2.1) Ar22.2.2 hi22 hat22 (g := (mkF m 17 #[rv sb, rv wb, iv 6] [.int 6, .ref sb])) rfl rfl (hb hby d16_17) t k) ?_
                refine own_s s₁ (mkF m 19 #[rv sb, rv wb, iv 6] [.ref wb, .int 100]) (fun t k => XS.aloadN X0.here hx rfl (hb hby d16_18) rfl rfl k) ?_
                refine own_s s₁ (mkF m 20 #[rv sb, rv wb, iv 6] [.int 6, .ref wb, .int 100]) (fun t k => XS.iloadN X0.here hx rfl (hb hby d16_19) rfl k) ?_
                obtain ⟨cl23, Ar23, qa23, S23, M23, H23, U23⟩ := id F_1
                have hi23 := inb_of S23 (j := (6 : Int32)) ⟨by decide, by decide⟩
                have hat23 := H23.at hi23 (v := (.int c6)) rfl
                refine own_s s₁ (mkF m 21 #[rv sb, rv wb, iv 6] [.int c6, .int 100]) (fun t k => X0.baloadBytes hx (j := (6 : Int32)) (v := (.int c6)) (by rw [e0]; exact Ar23.1) (State.isArrayOf_alike hZ.alike Ar23.2.1) Ar23.2.2 hi23 hat23 (g := (mkF m 20 #[rv sb, rv wb, iv 6] [.int 6, .ref wb, .int 100])) rfl rfl (hb hby d16_20) t k) ?_
                by_cases hq6 : (100 : Int32) = c6
                · refine own_s s₁ (mkF m 26 #[rv sb, rv wb, iv 6] []) (fun t k => XS.icmpYes X0.here hx rfl (pc0 := 21) (pc' := 26) rfl (hb hby d16_21) rfl (teq hq6).1 (by decide) (by decide) k) ?_
                  refine own_s s₁ (mkF m 29 #[rv sb, rv wb, iv 7] []) (fun t k => XS.iinc X0.here hx rfl (hb hby d16_26) rfl (l' := #[rv sb, rv wb, iv 7]) rfl k) ?_
                  refine own_s s₁ (mkF m 9 #[rv sb, rv wb, iv 7] []) (fun t k => XS.goto X0.here hx rfl (pc0 := 29) (pc' := 9) rfl (hb hby d16_29) (by decide) (by decide) k) ?_
                  refine own_s s₁ (mkF m 10 #[rv sb, rv wb, iv 7] [.int 7]) (fun t k => XS.iloadN X0.here hx rfl (hb hby d16_9) rfl k) ?_
                  refine own_s s₁ (mkF m 11 #[rv sb, rv wb, iv 7] [.ref sb, .int 7]) (fun t k => XS.aloadN X0.here hx rfl (hb hby d16_10) rfl rfl k) ?_
                  obtain ⟨cl24, Ar24, qa24, S24, M24, H24, U24⟩ := id F_0
                  have ln24 := len_of S24 M24
                  refine own_s s₁ (mkF m 12 #[rv sb, rv wb, iv 7] [.int 7, .int 7]) (fun t k => X0.arraylength hx (cell := cl24) (by rw [e0]; exact Ar24.1) (State.isArrayOf_alike hZ.alike Ar24.2.1) (g := (mkF m 11 #[rv sb, rv wb, iv 7] [.ref sb, .int 7])) rfl rfl (hb hby d16_11) t (by rw [ln24]; exact k)) ?_
                  refine own_s s₁ (mkF m 32 #[rv sb, rv wb, iv 7] []) (fun t k => XS.icmpYes X0.here hx rfl (pc0 := 12) (pc' := 32) rfl (hb hby d16_12) rfl (flt (by decide : ¬ ((7 : Int32) < (7 : Int32)))).2.1 (by decide) (by decide) k) ?_
                  refine own_s s₁ (mkF m 33 #[rv sb, rv wb, iv 7] [.int 1]) (fun t k => XS.iconst X0.here hx rfl (hb hby d16_32) k) ?_
                  refine own_rN X0 hx hlk Bd.returns (by simp) (hb hby d16_33) ?_ (by decide) (by decide)
                  rw [e0]
                  exact ⟨congrArg (fun z => some (Value.int z)) (Eq.symm (own_bT (by first | (rw [← hq0, ← hq1, ← hq2, ← hq3, ← hq4, ← hq5, ← hq6]; done) | (rw [← hq0, ← hq1, ← hq2, ← hq3, ← hq4, ← hq5, ← hq6]; rfl)))), N0, rfl⟩
                · refine own_s s₁ (mkF m 24 #[rv sb, rv wb, iv 6] []) (fun t k => XS.icmpNo X0.here hx rfl (hb hby d16_21) rfl (feq hq6).1 k) ?_
                  refine own_s s₁ (mkF m 25 #[rv sb, rv wb, iv 6] [.int 0]) (fun t k => XS.iconst X0.here hx rfl (hb hby d16_24) k) ?_
                  refine own_rN X0 hx hlk Bd.returns (by simp) (hb hby d16_25) ?_ (by decide) (by decide)
                  rw [e0]
                  exact ⟨congrArg (fun z => some (Value.int z)) (Eq.symm (own_bF (fun q => hq6 (by simp only [own_LI, List.cons.injEq, Value.int.injEq] at q; exact q.2.2.2.2.2.2.1.symm)))), N0, rfl⟩
              · refine own_s s₁ (mkF m 24 #[rv sb, rv wb, iv 5] []) (fun t k => XS.icmpNo X0.here hx rfl (hb hby d16_21) rfl (feq hq5).1 k) ?_
                refine own_s s₁ (mkF m 25 #[rv sb, rv wb, iv 5] [.int 0]) (fun t k => XS.iconst X0.here hx rfl (hb hby d16_24) k) ?_
                refine own_rN X0 hx hlk Bd.returns (by simp) (hb hby d16_25) ?_ (by decide) (by decide)
                rw [e0]
                exact ⟨congrArg (fun z => some (Value.int z)) (Eq.symm (own_bF (fun q => hq5 (by simp only [own_LI, List.cons.injEq, Value.int.injEq] at q; exact q.2.2.2.2.2.1.symm)))), N0, rfl⟩
            · refine own_s s₁ (mkF m 24 #[rv sb, rv wb, iv 4] []) (fun t k => XS.icmpNo X0.here hx rfl (hb hby d16_21) rfl (feq hq4).1 k) ?_
              refine own_s s₁ (mkF m 25 #[rv sb, rv wb, iv 4] [.int 0]) (fun t k => XS.iconst X0.here hx rfl (hb hby d16_24) k) ?_
              refine own_rN X0 hx hlk Bd.returns (by simp) (hb hby d16_25) ?_ (by decide) (by decide)
              rw [e0]
              exact ⟨congrArg (fun z => some (Value.int z)) (Eq.symm (own_bF (fun q => hq4 (by simp only [own_LI, List.cons.injEq, Value.int.injEq] at q; exact q.2.2.2.2.1.symm)))), N0, rfl⟩
          · refine own_s s₁ (mkF m 24 #[rv sb, rv wb, iv 3] []) (fun t k => XS.icmpNo X0.here hx rfl (hb hby d16_21) rfl (feq hq3).1 k) ?_
            refine own_s s₁ (mkF m 25 #[rv sb, rv wb, iv 3] [.int 0]) (fun t k => XS.iconst X0.here hx rfl (hb hby d16_24) k) ?_
            refine own_rN X0 hx hlk Bd.returns (by simp) (hb hby d16_25) ?_ (by decide) (by decide)
            rw [e0]
            exact ⟨congrArg (fun z => some (Value.int z)) (Eq.symm (own_bF (fun q => hq3 (by simp only [own_LI, List.cons.injEq, Value.int.injEq] at q; exact q.2.2.2.1.symm)))), N0, rfl⟩
        · refine own_s s₁ (mkF m 24 #[rv sb, rv wb, iv 2] []) (fun t k => XS.icmpNo X0.here hx rfl (hb hby d16_21) rfl (feq hq2).1 k) ?_
          refine own_s s₁ (mkF m 25 #[rv sb, rv wb, iv 2] [.int 0]) (fun t k => XS.iconst X0.here hx rfl (hb hby d16_24) k) ?_
          refine own_rN X0 hx hlk Bd.returns (by simp) (hb hby d16_25) ?_ (by decide) (by decide)
          rw [e0]
          exact ⟨congrArg (fun z => some (Value.int z)) (Eq.symm (own_bF (fun q => hq2 (by simp only [own_LI, List.cons.injEq, Value.int.injEq] at q; exact q.2.2.1.symm)))), N0, rfl⟩
      · refine own_s s₁ (mkF m 24 #[rv sb, rv wb, iv 1] []) (fun t k => XS.icmpNo X0.here hx rfl (hb hby d16_21) rfl (feq hq1).1 k) ?_
        refine own_s s₁ (mkF m 25 #[rv sb, rv wb, iv 1] [.int 0]) (fun t k => XS.iconst X0.here hx rfl (hb hby d16_24) k) ?_
        refine own_rN X0 hx hlk Bd.returns (by simp) (hb hby d16_25) ?_ (by decide) (by decide)
        rw [e0]
        exact ⟨congrArg (fun z => some (Value.int z)) (Eq.symm (own_bF (fun q => hq1 (by simp only [own_LI, List.cons.injEq, Value.int.injEq] at q; exact q.2.1.symm)))), N0, rfl⟩
    · refine own_s s₁ (mkF m 24 #[rv sb, rv wb, iv 0] []) (fun t k => XS.icmpNo X0.here hx rfl (hb hby d16_21) rfl (feq hq0).1 k) ?_
      refine own_s s₁ (mkF m 25 #[rv sb, rv wb, iv 0] [.int 0]) (fun t k => XS.iconst X0.here hx rfl (hb hby d16_24) k) ?_
      refine own_rN X0 hx hlk Bd.returns (by simp) (hb hby d16_25) ?_ (by decide) (by decide)
      rw [e0]
      exact ⟨congrArg (fun z => some (Value.int z)) (Eq.symm (own_bF (fun q => hq0 (by simp only [own_LI, List.cons.injEq, Value.int.injEq] at q; exact q.1.symm)))), N0, rfl⟩
  · refine own_s s₁ (mkF m 1 #[rv sb, rv wb, u_] [.ref sb]) (fun t k => XS.aloadN X0.here hx rfl (hb hby d16_0) rfl rfl k) ?_
    obtain ⟨cl25, Ar25, qa25, S25, M25, H25, U25⟩ := id F_0
    have ln25 := len_of S25 M25
    refine own_s s₁ (mkF m 2 #[rv sb, rv wb, u_] [.int 7]) (fun t k => X0.arraylength hx (cell := cl25) (by rw [e0]; exact Ar25.1) (State.isArrayOf_alike hZ.alike Ar25.2.1) (g := (mkF m 1 #[rv sb, rv wb, u_] [.ref sb])) rfl rfl (hb hby d16_1) t (by rw [ln25]; exact k)) ?_
    refine own_s s₁ (mkF m 3 #[rv sb, rv wb, u_] [.ref wb, .int 7]) (fun t k => XS.aloadN X0.here hx rfl (hb hby d16_2) rfl rfl k) ?_
    obtain ⟨cl26, Ar26, qa26, S26, M26, H26, U26⟩ := id F_1
    have ln26 := len_of S26 M26
    refine own_s s₁ (mkF m 4 #[rv sb, rv wb, u_] [.int zn, .int 7]) (fun t k => X0.arraylength hx (cell := cl26) (by rw [e0]; exact Ar26.1) (State.isArrayOf_alike hZ.alike Ar26.2.1) (g := (mkF m 3 #[rv sb, rv wb, u_] [.ref wb, .int 7])) rfl rfl (hb hby d16_3) t (by rw [ln26]; exact k)) ?_
    refine own_s s₁ (mkF m 34 #[rv sb, rv wb, u_] []) (fun t k => XS.icmpYes X0.here hx rfl (pc0 := 4) (pc' := 34) rfl (hb hby d16_4) rfl (feq (fun q => hz q.symm)).2 (by decide) (by decide) k) ?_
    refine own_s s₁ (mkF m 35 #[rv sb, rv wb, u_] [.int 0]) (fun t k => XS.iconst X0.here hx rfl (hb hby d16_34) k) ?_
    refine own_rN X0 hx hlk Bd.returns (by simp) (hb hby d16_35) ?_ (by decide) (by decide)
    rw [e0]
    exact ⟨congrArg (fun z => some (Value.int z)) (Eq.symm (own_bL (fun q => hz ((own_fT hform).2 q)))), N0, rfl⟩
def Q_seqV1 (Z : State) (wa : Addr) (wb : Addr) (wk : ClassId) (zn : Int32) (wl : List Value) (sa : Addr) (sb : Addr) (sk : ClassId) (ic : Int32) (h0 : Heap) (n0 : Nat) (v : Option Value) (h : Heap) (L : List Loc) : Prop := v = some (.int (own_beq wl own_LV)) ∧ Fr n0 L ∧ h = h0
theorem ef_rm_seqV1 (m : MethodId) (x0 : Addr) (x1 : Addr) : entryFrame m #[(.ref x0), (.ref x1)] 3 = mkF m 0 #[.val (.ref x0), .val (.ref x1), .unset] [] := by first | (simp [entryFrame, mkF, argsToLocals, Value.category]; done) | rfl | (simp [entryFrame, mkF, argsToLocals, Value.category] <;> rfl)
theorem d15_0 : decode jdk_42_method_66_code 0 = .ok (.aload_n 0, 1) := by decide +kernel
theorem d15_1 : decode jdk_42_method_66_code 1 = .ok (.aload_n 1, 1) := by decide +kernel
theorem d15_2 : decode jdk_42_method_66_code 2 = .ok (.if_acmp .ne 5, 3) := by decide +kernel
theorem d15_7 : decode jdk_42_method_66_code 7 = .ok (.aload_n 1, 1) := by decide +kernel
theorem d15_8 : decode jdk_42_method_66_code 8 = .ok (.instanceof 10, 3) := by decide +kernel
theorem d15_11 : decode jdk_42_method_66_code 11 = .ok (.ifCond .eq 43, 3) := by decide +kernel
theorem d15_14 : decode jdk_42_method_66_code 14 = .ok (.aload_n 1, 1) := by decide +kernel
theorem d15_15 : decode jdk_42_method_66_code 15 = .ok (.checkcast 10, 3) := by decide +kernel
theorem d15_18 : decode jdk_42_method_66_code 18 = .ok (.astore_n 2, 1) := by decide +kernel
theorem d15_19 : decode jdk_42_method_66_code 19 = .ok (.getstatic 38, 3) := by decide +kernel
theorem d15_22 : decode jdk_42_method_66_code 22 = .ok (.ifCond .eq 14, 3) := by decide +kernel
theorem d15_25 : decode jdk_42_method_66_code 25 = .ok (.aload_n 0, 1) := by decide +kernel
theorem d15_26 : decode jdk_42_method_66_code 26 = .ok (.getfield 15, 3) := by decide +kernel
theorem d15_29 : decode jdk_42_method_66_code 29 = .ok (.aload_n 2, 1) := by decide +kernel
theorem d15_30 : decode jdk_42_method_66_code 30 = .ok (.getfield 15, 3) := by decide +kernel
theorem d15_33 : decode jdk_42_method_66_code 33 = .ok (.if_icmp .ne 21, 3) := by decide +kernel
theorem d15_36 : decode jdk_42_method_66_code 36 = .ok (.aload_n 0, 1) := by decide +kernel
theorem d15_37 : decode jdk_42_method_66_code 37 = .ok (.getfield 9, 3) := by decide +kernel
theorem d15_40 : decode jdk_42_method_66_code 40 = .ok (.aload_n 2, 1) := by decide +kernel
theorem d15_41 : decode jdk_42_method_66_code 41 = .ok (.getfield 9, 3) := by decide +kernel
theorem pd_11 : parseMethodDescriptor "([B[B)Z" = some ⟨[.array .byte, .array .byte], some (.boolean)⟩ := by decide +kernel
theorem d15_44 : decode jdk_42_method_66_code 44 = .ok (.invokestatic 541, 3) := by decide +kernel
theorem d15_47 : decode jdk_42_method_66_code 47 = .ok (.ifCond .eq 7, 3) := by decide +kernel
theorem d15_54 : decode jdk_42_method_66_code 54 = .ok (.iconst 0, 1) := by decide +kernel
theorem d15_55 : decode jdk_42_method_66_code 55 = .ok (.ireturn, 1) := by decide +kernel
theorem d15_50 : decode jdk_42_method_66_code 50 = .ok (.iconst 1, 1) := by decide +kernel
theorem d15_51 : decode jdk_42_method_66_code 51 = .ok (.goto 4, 3) := by decide +kernel
set_option maxRecDepth 65536 in
set_option maxHeartbeats 40000000 in
theorem rm_seqV1 (l : Launch) (Z : State) (a0 : Array Value) (hw : ∀ d ∈ tables_1, d.before a0 Z = true) (ws : List Jvm.Cond) (wa : Addr) (wb : Addr) (wk : ClassId) (zn : Int32) (wl : List Value) (sa : Addr) (sb : Addr) (sk : ClassId) (ic : Int32) (h0 : Heap) (n0 : Nat) (Z0 : n0 ≤ h0.size) (F_0 : Exa Z h0 wa "java/lang/String") (F_1 : Fld Z h0 wa "java/lang/String" "coder" "B" (.int (0 : Int32))) (F_2 : Fld Z h0 wa "java/lang/String" "value" "[B" (.ref wb)) (F_3 : Arv Z h0 wb wk .byte zn wl (.int (0 : Int32))) (F_4 : Exa Z h0 sa "java/lang/String") (F_5 : Fld Z h0 sa "java/lang/String" "coder" "B" (.int (0 : Int32))) (F_6 : Fld Z h0 sa "java/lang/String" "value" "[B" (.ref sb)) (F_7 : Arv Z h0 sb sk .byte (5 : Int32) [(.int (118 : Int32)), (.int (97 : Int32)), (.int (108 : Int32)), (.int (105 : Int32)), (.int (100 : Int32))] (.int (0 : Int32))) (n_wa_sa : wa ≠ sa) (O0 : Old Z n0 h0) (hform : own_form zn wl) (S_c : Sta Z Z.heap "java/lang/String" "COMPACT_STRINGS" "Z" (.int ic)) (hic : ¬ ic = 0) :
    MetFree l (⟨"java/lang/String", "equals", "(Ljava/lang/Object;)Z"⟩ : MethodName) (head1 (Jvm.Cond.code (⟨"java/lang/String", "equals", "(Ljava/lang/Object;)Z"⟩ : MethodName) jdk_42_method_66_code 3 (some (.boolean)) :: ws) ({ frames := 1, cells := 0, slots := 0, locals := 14 } : Room)) (fun a U => a = #[(.ref wa), (.ref sa)] ∧ Z.Warmed39 U.vm ∧ U.heap = h0) (fun _ _ _ _ _ => True) (fun _ U o U' => ∃ v L, o = .returned v ∧ (Q_seqV1 Z wa wb wk zn wl sa sb sk ic h0 n0) v U'.heap L ∧ FrameEnd U o U' L ({ frames := 1, cells := 0, slots := 0, locals := 14 } : Room).cells ({ frames := 1, cells := 0, slots := 0, locals := 14 } : Room).slots) := by
  refine MetFree.of_bodySF (plainFor_of_name pn_0) hisR ?_
  intro p e s m args below meth c s₁ Bd hml0 hP hK
  obtain ⟨rfl, hZ, hh⟩ := hP
  have hx := Bd.exec
  have hby := Bd.bytes
  have hW := fun i d (h : tables_1[i]? = some d) => hw d (List.mem_of_getElem? h)
  have hlk : meth.locks = false := BodyLoose.notSynchronized Bd
  have hml : c.maxLocals = 3 := hml0
  have hown : s.vm.findClass "java/lang/String" = some m.cls := findClass_of_methodNamed Bd.named
  have hnm := (name_of_methodNamed Bd.named Bd.method).1
  have X0 : Stand p l e ({ frames := 1, cells := 0, slots := 0, locals := 14 } : Room) s m #[(.ref wa), (.ref sa)] below meth c s₁ [] 0 0 := Stand.of_body Bd
  have e0 : s₁.heap = h0 := by rw [← hh, Bd.state]; rfl
  have N0 := Fr.nil n0
  show own_Go p e below s (Q_seqV1 Z wa wb wk zn wl sa sb sk ic h0 n0) ({ frames := 1, cells := 0, slots := 0, locals := 14 } : Room).cells ({ frames := 1, cells := 0, slots := 0, locals := 14 } : Room).slots s₁ (entryFrame m #[(.ref wa), (.ref sa)] 3)
  refine own_cast (g' := (mkF m 0 #[rv wa, rv sa, u_] [])) (ef_rm_seqV1 m wa sa) ?_
  refine own_s s₁ (mkF m 1 #[rv wa, rv sa, u_] [.ref wa]) (fun t k => XS.aloadN X0.here hx rfl (hb hby d15_0) rfl rfl k) ?_
  refine own_s s₁ (mkF m 2 #[rv wa, rv sa, u_] [.ref sa, .ref wa]) (fun t k => XS.aloadN X0.here hx rfl (hb hby d15_1) rfl rfl k) ?_
  refine own_s s₁ (mkF m 7 #[rv wa, rv sa, u_] []) (fun t k => acmp (g := (mkF m 2 #[rv wa, rv sa, u_] [.ref sa, .ref wa])) X0 hx rfl (x := (.ref wa)) (y := (.ref sa)) rfl rfl (pc0 := 2) (pc' := 7) (same := false) rfl (hb hby d15_2) rfl (decide_eq_false (fun q => n_wa_sa (Value.ref.inj q))) (by decide) rfl k) ?_
  refine own_s s₁ (mkF m 8 #[rv wa, rv sa, u_] [.ref sa]) (fun t k => XS.aloadN X0.here hx rfl (hb hby d15_7) rfl rfl k) ?_
  obtain ⟨T1, X1, e1, st1⟩ := instY X0 hx hZ hown (hW 75 _ rfl) e0 (Ins.self F_4) (g := (mkF m 8 #[rv wa, rv sa, u_] [.ref sa])) rfl rfl (hb hby d15_8)
  refine own_s T1 (mkF m 11 #[rv wa, rv sa, u_] [.int 1]) st1 ?_
  refine own_s T1 (mkF m 14 #[rv wa, rv sa, u_] []) (fun t k => XS.ifNo X1.here hx rfl (hb hby d15_11) rfl ((if0 _ _).trans (feq (by decide : ¬ ((1 : Int32) = (0 : Int32)))).1) k) ?_
  refine own_s T1 (mkF m 15 #[rv wa, rv sa, u_] [.ref sa]) (fun t k => XS.aloadN X1.here hx rfl (hb hby d15_14) rfl rfl k) ?_
  obtain ⟨T2, X2, e2, st2⟩ := castY X1 hx hZ hown (hW 75 _ rfl) e1 (Ins.self F_4) (g := (mkF m 15 #[rv wa, rv sa, u_] [.ref sa])) rfl rfl (hb hby d15_15)
  refine own_s T2 (mkF m 18 #[rv wa, rv sa, u_] [.ref sa]) st2 ?_
  refine own_s T2 (mkF m 19 #[rv wa, rv sa, rv sa] []) (fun t k => XS.astoreN X2.here hx rfl (hb hby d15_18) rfl rfl (l' := #[rv wa, rv sa, rv sa]) rfl k) ?_
  obtain ⟨T3, X3, e3, st3⟩ := getS2 X2 hx hZ hown (host := "") (Or.inl (hW 19 _ rfl)) Via.refl e2 (S_c.ext O0.2) (g := (mkF m 19 #[rv wa, rv sa, rv sa] [])) rfl (hb hby d15_19)
  refine own_s T3 (mkF m 22 #[rv wa, rv sa, rv sa] [.int ic]) st3 ?_
  refine own_s T3 (mkF m 25 #[rv wa, rv sa, rv sa] []) (fun t k => XS.ifNo X3.here hx rfl (hb hby d15_22) rfl ((if0 _ _).trans (feq hic).1) k) ?_
  refine own_s T3 (mkF m 26 #[rv wa, rv sa, rv sa] [.ref wa]) (fun t k => XS.aloadN X3.here hx rfl (hb hby d15_25) rfl rfl k) ?_
  obtain ⟨T4, X4, e4, st4⟩ := getF X3 hx hZ hown (host := "") (Or.inl (hW 20 _ rfl)) Via.refl e3 F_1 (g := (mkF m 26 #[rv wa, rv sa, rv sa] [.ref wa])) rfl rfl (hb hby d15_26)
  refine own_s T4 (mkF m 29 #[rv wa, rv sa, rv sa] [.int 0]) st4 ?_
  refine own_s T4 (mkF m 30 #[rv wa, rv sa, rv sa] [.ref sa, .int 0]) (fun t k => XS.aloadN X4.here hx rfl (hb hby d15_29) rfl rfl k) ?_
  obtain ⟨T5, X5, e5, st5⟩ := getF X4 hx hZ hown (host := "") (Or.inl (hW 20 _ rfl)) Via.refl e4 F_5 (g := (mkF m 30 #[rv wa, rv sa, rv sa] [.ref sa, .int 0])) rfl rfl (hb hby d15_30)
  refine own_s T5 (mkF m 33 #[rv wa, rv sa, rv sa] [.int 0, .int 0]) st5 ?_
  refine own_s T5 (mkF m 36 #[rv wa, rv sa, rv sa] []) (fun t k => XS.icmpNo X5.here hx rfl (hb hby d15_33) rfl (teq (by decide : ((0 : Int32) = (0 : Int32)))).2 k) ?_
  refine own_s T5 (mkF m 37 #[rv wa, rv sa, rv sa] [.ref wa]) (fun t k => XS.aloadN X5.here hx rfl (hb hby d15_36) rfl rfl k) ?_
  obtain ⟨T6, X6, e6, st6⟩ := getF X5 hx hZ hown (host := "") (Or.inl (hW 13 _ rfl)) Via.refl e5 F_2 (g := (mkF m 37 #[rv wa, rv sa, rv sa] [.ref wa])) rfl rfl (hb hby d15_37)
  refine own_s T6 (mkF m 40 #[rv wa, rv sa, rv sa] [.ref wb]) st6 ?_
  refine own_s T6 (mkF m 41 #[rv wa, rv sa, rv sa] [.ref sa, .ref wb]) (fun t k => XS.aloadN X6.here hx rfl (hb hby d15_40) rfl rfl k) ?_
  obtain ⟨T7, X7, e7, st7⟩ := getF X6 hx hZ hown (host := "") (Or.inl (hW 13 _ rfl)) Via.refl e6 F_6 (g := (mkF m 41 #[rv wa, rv sa, rv sa] [.ref sa, .ref wb])) rfl rfl (hb hby d15_41)
  refine own_s T7 (mkF m 44 #[rv wa, rv sa, rv sa] [.ref sb, .ref wb]) st7 ?_
  obtain ⟨_, _, ⟨T10, L10, k10, n10⟩, -, X10, ⟨Lc10, hQ10, lq10, yq10, zq10⟩, st10⟩ := Jvm.LawKit.callS X7 hx (y := (⟨"java/lang/StringLatin1", "equals", "([B[B)Z"⟩ : MethodName)) hown (mvT hZ (hW 76 _ rfl)) (mvT hZ (hW 77 _ rfl)) (mvT hZ (hW 39 _ rfl)) (mvT hZ (hW 78 _ rfl)) (by decide) (backOf (W := 0) (rm_leqV1 l Z a0 hw [] wb wk zn wl sb sk h0 n0 Z0 F_7 F_3 hform) hZ (hW 78 _ rfl) (hW 39 _ rfl) (by decide) (by decide)) (g := (mkF m 44 #[rv wa, rv sa, rv sa] [.ref sb, .ref wb])) rfl (by rw [hml]; rfl) (argsL := [(.ref wb), (.ref sb)]) (rest := []) (lenOf pd_11 rfl) rfl (by show 2 * 0 + _ ≤ _; exact Nat.le_of_eq rfl) (hb hby d15_44) (fun _ _ => ⟨rfl, e7, (by decide : 0 + 0 ≤ _), (by decide : 0 + 0 ≤ _)⟩)
  dsimp only [Pt.U, Pt.locs, Pt.cells, Pt.slots] at X10 lq10 yq10 zq10 st10 hQ10
  subst lq10 yq10 zq10
  obtain ⟨rfl, Nq10, eq9⟩ := hQ10
  have N10 := Fr.app N0 Nq10
  refine own_s T10 (mkF m 47 #[rv wa, rv sa, rv sa] [.int (own_beq wl own_LV)]) st10 ?_
  by_cases c47 : (own_beq wl own_LV) = (0 : Int32)
  · refine own_s T10 (mkF m 54 #[rv wa, rv sa, rv sa] []) (fun t k => XS.ifYes X10.here hx rfl (pc0 := 47) (pc' := 54) rfl (hb hby d15_47) rfl ((if0 _ _).trans (teq c47).1) (by decide) (by decide) k) ?_
    refine own_s T10 (mkF m 55 #[rv wa, rv sa, rv sa] [.int 0]) (fun t k => XS.iconst X10.here hx rfl (hb hby d15_54) k) ?_
    refine own_rN X10 hx hlk Bd.returns (by simp) (hb hby d15_55) ?_ (by decide) (by decide)
    rw [eq9]
    exact ⟨congrArg (fun z => some (Value.int z)) (Eq.symm (c47)), N10, rfl⟩
  · refine own_s T10 (mkF m 50 #[rv wa, rv sa, rv sa] []) (fun t k => XS.ifNo X10.here hx rfl (hb hby d15_47) rfl ((if0 _ _).trans (feq c47).1) k) ?_
    refine own_s T10 (mkF m 51 #[rv wa, rv sa, rv sa] [.int 1]) (fun t k => XS.iconst X10.here hx rfl (hb hby d15_50) k) ?_
    refine own_s T10 (mkF m 55 #[rv wa, rv sa, rv sa] [.int 1]) (fun t k => XS.goto X10.here hx rfl (pc0 := 51) (pc' := 55) rfl (hb hby d15_51) (by decide) (by decide) k) ?_
    refine own_rN X10 hx hlk Bd.returns (by simp) (hb hby d15_55) ?_ (by decide) (by decide)
    rw [eq9]
    exact ⟨congrArg (fun z => some (Value.int z)) (Eq.symm (own_b1 c47)), N10, rfl⟩
def Q_seqV0 (Z : State) (wa : Addr) (wb : Addr) (wk : ClassId) (zn : Int32) (wl : List Value) (sa : Addr) (sb : Addr) (sk : ClassId) (ic : Int32) (h0 : Heap) (n0 : Nat) (v : Option Value) (h : Heap) (L : List Loc) : Prop := v = some (.int (own_beq wl own_LV)) ∧ Fr n0 L ∧ h = h0
theorem ef_rm_seqV0 (m : MethodId) (x0 : Addr) (x1 : Addr) : entryFrame m #[(.ref x0), (.ref x1)] 3 = mkF m 0 #[.val (.ref x0), .val (.ref x1), .unset] [] := by first | (simp [entryFrame, mkF, argsToLocals, Value.category]; done) | rfl | (simp [entryFrame, mkF, argsToLocals, Value.category] <;> rfl)
set_option maxRecDepth 65536 in
set_option maxHeartbeats 40000000 in
theorem rm_seqV0 (l : Launch) (Z : State) (a0 : Array Value) (hw : ∀ d ∈ tables_1, d.before a0 Z = true) (ws : List Jvm.Cond) (wa : Addr) (wb : Addr) (wk : ClassId) (zn : Int32) (wl : List Value) (sa : Addr) (sb : Addr) (sk : ClassId) (ic : Int32) (h0 : Heap) (n0 : Nat) (Z0 : n0 ≤ h0.size) (F_0 : Exa Z h0 wa "java/lang/String") (F_1 : Fld Z h0 wa "java/lang/String" "coder" "B" (.int (0 : Int32))) (F_2 : Fld Z h0 wa "java/lang/String" "value" "[B" (.ref wb)) (F_3 : Arv Z h0 wb wk .byte zn wl (.int (0 : Int32))) (F_4 : Exa Z h0 sa "java/lang/String") (F_5 : Fld Z h0 sa "java/lang/String" "coder" "B" (.int (0 : Int32))) (F_6 : Fld Z h0 sa "java/lang/String" "value" "[B" (.ref sb)) (F_7 : Arv Z h0 sb sk .byte (5 : Int32) [(.int (118 : Int32)), (.int (97 : Int32)), (.int (108 : Int32)), (.int (105 : Int32)), (.int (100 : Int32))] (.int (0 : Int32))) (n_sa_wa : sa ≠ wa) (O0 : Old Z n0 h0) (hform : own_form zn wl) (S_c : Sta Z Z.heap "java/lang/String" "COMPACT_STRINGS" "Z" (.int ic)) (hic : ¬ ic = 0) :
    MetFree l (⟨"java/lang/String", "equals", "(Ljava/lang/Object;)Z"⟩ : MethodName) (head1 (Jvm.Cond.code (⟨"java/lang/String", "equals", "(Ljava/lang/Object;)Z"⟩ : MethodName) jdk_42_method_66_code 3 (some (.boolean)) :: ws) ({ frames := 1, cells := 0, slots := 0, locals := 14 } : Room)) (fun a U => a = #[(.ref sa), (.ref wa)] ∧ Z.Warmed39 U.vm ∧ U.heap = h0) (fun _ _ _ _ _ => True) (fun _ U o U' => ∃ v L, o = .returned v ∧ (Q_seqV0 Z wa wb wk zn wl sa sb sk ic h0 n0) v U'.heap L ∧ FrameEnd U o U' L ({ frames := 1, cells := 0, slots := 0, locals := 14 } : Room).cells ({ frames := 1, cells := 0, slots := 0, locals := 14 } : Room).slots) := by
  refine MetFree.of_bodySF (plainFor_of_name pn_0) hisR ?_
  intro p e s m args below meth c s₁ Bd hml0 hP hK
  obtain ⟨rfl, hZ, hh⟩ := hP
  have hx := Bd.exec
  have hby := Bd.bytes
  have hW := fun i d (h : tables_1[i]? = some d) => hw d (List.mem_of_getElem? h)
  have hlk : meth.locks = false := BodyLoose.notSynchronized Bd
  have hml : c.maxLocals = 3 := hml0
  have hown : s.vm.findClass "java/lang/String" = some m.cls := findClass_of_methodNamed Bd.named
  have hnm := (name_of_methodNamed Bd.named Bd.method).1
  have X0 : Stand p l e ({ frames := 1, cells := 0, slots := 0, locals := 14 } : Room) s m #[(.ref sa), (.ref wa)] below meth c s₁ [] 0 0 := Stand.of_body Bd
  have e0 : s₁.heap = h0 := by rw [← hh, Bd.state]; rfl
  have N0 := Fr.nil n0
  show own_Go p e below s (Q_seqV0 Z wa wb wk zn wl sa sb sk ic h0 n0) ({ frames := 1, cells := 0, slots := 0, locals := 14 } : Room).cells ({ frames := 1, cells := 0, slots := 0, locals := 14 } : Room).slots s₁ (entryFrame m #[(.ref sa), (.ref wa)] 3)
  refine own_cast (g' := (mkF m 0 #[rv sa, rv wa, u_] [])) (ef_rm_seqV0 m sa wa) ?_
  refine own_s s₁ (mkF m 1 #[rv sa, rv wa, u_] [.ref sa]) (fun t k => XS.aloadN X0.here hx rfl (hb hby d15_0) rfl rfl k) ?_
  refine own_s s₁ (mkF m 2 #[rv sa, rv wa, u_] [.ref wa, .ref sa]) (fun t k => XS.aloadN X0.here hx rfl (hb hby d15_1) rfl rfl k) ?_
  refine own_s s₁ (mkF m 7 #[rv sa, rv wa, u_] []) (fun t k => acmp (g := (mkF m 2 #[rv sa, rv wa, u_] [.ref wa, .ref sa])) X0 hx rfl (x := (.ref sa)) (y := (.ref wa)) rfl rfl (pc0 := 2) (pc' := 7) (same := false) rfl (hb hby d15_2) rfl (decide_eq_false (fun q => n_sa_wa (Value.ref.inj q))) (by decide) rfl k) ?_
  refine own_s s₁ (mkF m 8 #[rv sa, rv wa, u_] [.ref wa]) (fun t k => XS.aloadN X0.here hx rfl (hb hby d15_7) rfl rfl k) ?_
  obtain ⟨T1, X1, e1, st1⟩ := instY X0 hx hZ hown (hW 75 _ rfl) e0 (Ins.self F_0) (g := (mkF m 8 #[rv sa, rv wa, u_] [.ref wa])) rfl rfl (hb hby d15_8)
  refine own_s T1 (mkF m 11 #[rv sa, rv wa, u_] [.int 1]) st1 ?_
  refine own_s T1 (mkF m 14 #[rv sa, rv wa, u_] []) (fun t k => XS.ifNo X1.here hx rfl (hb hby d15_11) rfl ((if0 _ _).trans (feq (by decide : ¬ ((1 : Int32) = (0 : Int32)))).1) k) ?_
  refine own_s T1 (mkF m 15 #[rv sa, rv wa, u_] [.ref wa]) (fun t k => XS.aloadN X1.here hx rfl (hb hby d15_14) rfl rfl k) ?_
  obtain ⟨T2, X2, e2, st2⟩ := castY X1 hx hZ hown (hW 75 _ rfl) e1 (Ins.self F_0) (g := (mkF m 15 #[rv sa, rv wa, u_] [.ref wa])) rfl rfl (hb hby d15_15)
  refine own_s T2 (mkF m 18 #[rv sa, rv wa, u_] [.ref wa]) st2 ?_
  refine own_s T2 (mkF m 19 #[rv sa, rv wa, rv wa] []) (fun t k => XS.astoreN X2.here hx rfl (hb hby d15_18) rfl rfl (l' := #[rv sa, rv wa, rv wa]) rfl k) ?_
  obtain ⟨T3, X3, e3, st3⟩ := getS2 X2 hx hZ hown (host := "") (Or.inl (hW 19 _ rfl)) Via.refl e2 (S_c.ext O0.2) (g := (mkF m 19 #[rv sa, rv wa, rv wa] [])) rfl (hb hby d15_19)
  refine own_s T3 (mkF m 22 #[rv sa, rv wa, rv wa] [.int ic]) st3 ?_
  refine own_s T3 (mkF m 25 #[rv sa, rv wa, rv wa] []) (fun t k => XS.ifNo X3.here hx rfl (hb hby d15_22) rfl ((if0 _ _).trans (feq hic).1) k) ?_
  refine own_s T3 (mkF m 26 #[rv sa, rv wa, rv wa] [.ref sa]) (fun t k => XS.aloadN X3.here hx rfl (hb hby d15_25) rfl rfl k) ?_
  obtain ⟨T4, X4, e4, st4⟩ := getF X3 hx hZ hown (host := "") (Or.inl (hW 20 _ rfl)) Via.refl e3 F_5 (g := (mkF m 26 #[rv sa, rv wa, rv wa] [.ref sa])) rfl rfl (hb hby d15_26)
  refine own_s T4 (mkF m 29 #[rv sa, rv wa, rv wa] [.int 0]) st4 ?_
  refine own_s T4 (mkF m 30 #[rv sa, rv wa, rv wa] [.ref wa, .int 0]) (fun t k => XS.aloadN X4.here hx rfl (hb hby d15_29) rfl rfl k) ?_
  obtain ⟨T5, X5, e5, st5⟩ := getF X4 hx hZ hown (host := "") (Or.inl (hW 20 _ rfl)) Via.refl e4 F_1 (g := (mkF m 30 #[rv sa, rv wa, rv wa] [.ref wa, .int 0])) rfl rfl (hb hby d15_30)
  refine own_s T5 (mkF m 33 #[rv sa, rv wa, rv wa] [.int 0, .int 0]) st5 ?_
  refine own_s T5 (mkF m 36 #[rv sa, rv wa, rv wa] []) (fun t k => XS.icmpNo X5.here hx rfl (hb hby d15_33) rfl (teq (by decide : ((0 : Int32) = (0 : Int32)))).2 k) ?_
  refine own_s T5 (mkF m 37 #[rv sa, rv wa, rv wa] [.ref sa]) (fun t k => XS.aloadN X5.here hx rfl (hb hby d15_36) rfl rfl k) ?_
  obtain ⟨T6, X6, e6, st6⟩ := getF X5 hx hZ hown (host := "") (Or.inl (hW 13 _ rfl)) Via.refl e5 F_6 (g := (mkF m 37 #[rv sa, rv wa, rv wa] [.ref sa])) rfl rfl (hb hby d15_37)
  refine own_s T6 (mkF m 40 #[rv sa, rv wa, rv wa] [.ref sb]) st6 ?_
  refine own_s T6 (mkF m 41 #[rv sa, rv wa, rv wa] [.ref wa, .ref sb]) (fun t k => XS.aloadN X6.here hx rfl (hb hby d15_40) rfl rfl k) ?_
  obtain ⟨T7, X7, e7, st7⟩ := getF X6 hx hZ hown (host := "") (Or.inl (hW 13 _ rfl)) Via.refl e6 F_2 (g := (mkF m 41 #[rv sa, rv wa, rv wa] [.ref wa, .ref sb])) rfl rfl (hb hby d15_41)
  refine own_s T7 (mkF m 44 #[rv sa, rv wa, rv wa] [.ref wb, .ref sb]) st7 ?_
  obtain ⟨_, _, ⟨T10, L10, k10, n10⟩, -, X10, ⟨Lc10, hQ10, lq10, yq10, zq10⟩, st10⟩ := Jvm.LawKit.callS X7 hx (y := (⟨"java/lang/StringLatin1", "equals", "([B[B)Z"⟩ : MethodName)) hown (mvT hZ (hW 76 _ rfl)) (mvT hZ (hW 77 _ rfl)) (mvT hZ (hW 39 _ rfl)) (mvT hZ (hW 78 _ rfl)) (by decide) (backOf (W := 0) (rm_leqV0 l Z a0 hw [] wb wk zn wl sb sk h0 n0 Z0 F_7 F_3 hform) hZ (hW 78 _ rfl) (hW 39 _ rfl) (by decide) (by decide)) (g := (mkF m 44 #[rv sa, rv wa, rv wa] [.ref wb, .ref sb])) rfl (by rw [hml]; rfl) (argsL := [(.ref sb), (.ref wb)]) (rest := []) (lenOf pd_11 rfl) rfl (by show 2 * 0 + _ ≤ _; exact Nat.le_of_eq rfl) (hb hby d15_44) (fun _ _ => ⟨rfl, e7, (by decide : 0 + 0 ≤ _), (by decide : 0 + 0 ≤ _)⟩)
  dsimp only [Pt.U, Pt.locs, Pt.cells, Pt.slots] at X10 lq10 yq10 zq10 st10 hQ10
  subst lq10 yq10 zq10
  obtain ⟨rfl, Nq10, eq9⟩ := hQ10
  have N10 := Fr.app N0 Nq10
  refine own_s T10 (mkF m 47 #[rv sa, rv wa, rv wa] [.int (own_beq wl own_LV)]) st10 ?_
  by_cases c47 : (own_beq wl own_LV) = (0 : Int32)
  · refine own_s T10 (mkF m 54 #[rv sa, rv wa, rv wa] []) (fun t k => XS.ifYes X10.here hx rfl (pc0 := 47) (pc' := 54) rfl (hb hby d15_47) rfl ((if0 _ _).trans (teq c47).1) (by decide) (by decide) k) ?_
    refine own_s T10 (mkF m 55 #[rv sa, rv wa, rv wa] [.int 0]) (fun t k => XS.iconst X10.here hx rfl (hb hby d15_54) k) ?_
    refine own_rN X10 hx hlk Bd.returns (by simp) (hb hby d15_55) ?_ (by decide) (by decide)
    rw [eq9]
    exact ⟨congrArg (fun z => some (Value.int z)) (Eq.symm (c47)), N10, rfl⟩
  · refine own_s T10 (mkF m 50 #[rv sa, rv wa, rv wa] []) (fun t k => XS.ifNo X10.here hx rfl (hb hby d15_47) rfl ((if0 _ _).trans (feq c47).1) k) ?_
    refine own_s T10 (mkF m 51 #[rv sa, rv wa, rv wa] [.int 1]) (fun t k => XS.iconst X10.here hx rfl (hb hby d15_50) k) ?_
    refine own_s T10 (mkF m 55 #[rv sa, rv wa, rv wa] [.int 1]) (fun t k => XS.goto X10.here hx rfl (pc0 := 51) (pc' := 55) rfl (hb hby d15_51) (by decide) (by decide) k) ?_
    refine own_rN X10 hx hlk Bd.returns (by simp) (hb hby d15_55) ?_ (by decide) (by decide)
    rw [eq9]
    exact ⟨congrArg (fun z => some (Value.int z)) (Eq.symm (own_b1 c47)), N10, rfl⟩
def Q_seqI1 (Z : State) (wa : Addr) (wb : Addr) (wk : ClassId) (zn : Int32) (wl : List Value) (sa : Addr) (sb : Addr) (sk : ClassId) (ic : Int32) (h0 : Heap) (n0 : Nat) (v : Option Value) (h : Heap) (L : List Loc) : Prop := v = some (.int (own_beq wl own_LI)) ∧ Fr n0 L ∧ h = h0
theorem ef_rm_seqI1 (m : MethodId) (x0 : Addr) (x1 : Addr) : entryFrame m #[(.ref x0), (.ref x1)] 3 = mkF m 0 #[.val (.ref x0), .val (.ref x1), .unset] [] := by first | (simp [entryFrame, mkF, argsToLocals, Value.category]; done) | rfl | (simp [entryFrame, mkF, argsToLocals, Value.category] <;> rfl)
set_option maxRecDepth 65536 in
set_option maxHeartbeats 40000000 in
theorem rm_seqI1 (l : Launch) (Z : State) (a0 : Array Value) (hw : ∀ d ∈ tables_1, d.before a0 Z = true) (ws : List Jvm.Cond) (wa : Addr) (wb : Addr) (wk : ClassId) (zn : Int32) (wl : List Value) (sa : Addr) (sb : Addr) (sk : ClassId) (ic : Int32) (h0 : Heap) (n0 : Nat) (Z0 : n0 ≤ h0.size) (F_0 : Exa Z h0 wa "java/lang/String") (F_1 : Fld Z h0 wa "java/lang/String" "coder" "B" (.int (0 : Int32))) (F_2 : Fld Z h0 wa "java/lang/String" "value" "[B" (.ref wb)) (F_3 : Arv Z h0 wb wk .byte zn wl (.int (0 : Int32))) (F_4 : Exa Z h0 sa "java/lang/String") (F_5 : Fld Z h0 sa "java/lang/String" "coder" "B" (.int (0 : Int32))) (F_6 : Fld Z h0 sa "java/lang/String" "value" "[B" (.ref sb)) (F_7 : Arv Z h0 sb sk .byte (7 : Int32) [(.int (105 : Int32)), (.int (110 : Int32)), (.int (118 : Int32)), (.int (97 : Int32)), (.int (108 : Int32)), (.int (105 : Int32)), (.int (100 : Int32))] (.int (0 : Int32))) (n_wa_sa : wa ≠ sa) (O0 : Old Z n0 h0) (hform : own_form zn wl) (S_c : Sta Z Z.heap "java/lang/String" "COMPACT_STRINGS" "Z" (.int ic)) (hic : ¬ ic = 0) :
    MetFree l (⟨"java/lang/String", "equals", "(Ljava/lang/Object;)Z"⟩ : MethodName) (head1 (Jvm.Cond.code (⟨"java/lang/String", "equals", "(Ljava/lang/Object;)Z"⟩ : MethodName) jdk_42_method_66_code 3 (some (.boolean)) :: ws) ({ frames := 1, cells := 0, slots := 0, locals := 14 } : Room)) (fun a U => a = #[(.ref wa), (.ref sa)] ∧ Z.Warmed39 U.vm ∧ U.heap = h0) (fun _ _ _ _ _ => True) (fun _ U o U' => ∃ v L, o = .returned v ∧ (Q_seqI1 Z wa wb wk zn wl sa sb sk ic h0 n0) v U'.heap L ∧ FrameEnd U o U' L ({ frames := 1, cells := 0, slots := 0, locals := 14 } : Room).cells ({ frames := 1, cells := 0, slots := 0, locals := 14 } : Room).slots) := by
  refine MetFree.of_bodySF (plainFor_of_name pn_0) hisR ?_
  intro p e s m args below meth c s₁ Bd hml0 hP hK
  obtain ⟨rfl, hZ, hh⟩ := hP
  have hx := Bd.exec
  have hby := Bd.bytes
  have hW := fun i d (h : tables_1[i]? = some d) => hw d (List.mem_of_getElem? h)
  have hlk : meth.locks = false := BodyLoose.notSynchronized Bd
  have hml : c.maxLocals = 3 := hml0
  have hown : s.vm.findClass "java/lang/String" = some m.cls := findClass_of_methodNamed Bd.named
  have hnm := (name_of_methodNamed Bd.named Bd.method).1
  have X0 : Stand p l e ({ frames := 1, cells := 0, slots := 0, locals := 14 } : Room) s m #[(.ref wa), (.ref sa)] below meth c s₁ [] 0 0 := Stand.of_body Bd
  have e0 : s₁.heap = h0 := by rw [← hh, Bd.state]; rfl
  have N0 := Fr.nil n0
  show own_Go p e below s (Q_seqI1 Z wa wb wk zn wl sa sb sk ic h0 n0) ({ frames := 1, cells := 0, slots := 0, locals := 14 } : Room).cells ({ frames := 1, cells := 0, slots := 0, locals := 14 } : Room).slots s₁ (entryFrame m #[(.ref wa), (.ref sa)] 3)
  refine own_cast (g' := (mkF m 0 #[rv wa, rv sa, u_] [])) (ef_rm_seqI1 m wa sa) ?_
  refine own_s s₁ (mkF m 1 #[rv wa, rv sa, u_] [.ref wa]) (fun t k => XS.aloadN X0.here hx rfl (hb hby d15_0) rfl rfl k) ?_
  refine own_s s₁ (mkF m 2 #[rv wa, rv sa, u_] [.ref sa, .ref wa]) (fun t k => XS.aloadN X0.here hx rfl (hb hby d15_1) rfl rfl k) ?_
  refine own_s s₁ (mkF m 7 #[rv wa, rv sa, u_] []) (fun t k => acmp (g := (mkF m 2 #[rv wa, rv sa, u_] [.ref sa, .ref wa])) X0 hx rfl (x := (.ref wa)) (y := (.ref sa)) rfl rfl (pc0 := 2) (pc' := 7) (same := false) rfl (hb hby d15_2) rfl (decide_eq_false (fun q => n_wa_sa (Value.ref.inj q))) (by decide) rfl k) ?_
  refine own_s s₁ (mkF m 8 #[rv wa, rv sa, u_] [.ref sa]) (fun t k => XS.aloadN X0.here hx rfl (hb hby d15_7) rfl rfl k) ?_
  obtain ⟨T1, X1, e1, st1⟩ := instY X0 hx hZ hown (hW 75 _ rfl) e0 (Ins.self F_4) (g := (mkF m 8 #[rv wa, rv sa, u_] [.ref sa])) rfl rfl (hb hby d15_8)
  refine own_s T1 (mkF m 11 #[rv wa, rv sa, u_] [.int 1]) st1 ?_
  refine own_s T1 (mkF m 14 #[rv wa, rv sa, u_] []) (fun t k => XS.ifNo X1.here hx rfl (hb hby d15_11) rfl ((if0 _ _).trans (feq (by decide : ¬ ((1 : Int32) = (0 : Int32)))).1) k) ?_
  refine own_s T1 (mkF m 15 #[rv wa, rv sa, u_] [.ref sa]) (fun t k => XS.aloadN X1.here hx rfl (hb hby d15_14) rfl rfl k) ?_
  obtain ⟨T2, X2, e2, st2⟩ := castY X1 hx hZ hown (hW 75 _ rfl) e1 (Ins.self F_4) (g := (mkF m 15 #[rv wa, rv sa, u_] [.ref sa])) rfl rfl (hb hby d15_15)
  refine own_s T2 (mkF m 18 #[rv wa, rv sa, u_] [.ref sa]) st2 ?_
  refine own_s T2 (mkF m 19 #[rv wa, rv sa, rv sa] []) (fun t k => XS.astoreN X2.here hx rfl (hb hby d15_18) rfl rfl (l' := #[rv wa, rv sa, rv sa]) rfl k) ?_
  obtain ⟨T3, X3, e3, st3⟩ := getS2 X2 hx hZ hown (host := "") (Or.inl (hW 19 _ rfl)) Via.refl e2 (S_c.ext O0.2) (g := (mkF m 19 #[rv wa, rv sa, rv sa] [])) rfl (hb hby d15_19)
  refine own_s T3 (mkF m 22 #[rv wa, rv sa, rv sa] [.int ic]) st3 ?_
  refine own_s T3 (mkF m 25 #[rv wa, rv sa, rv sa] []) (fun t k => XS.ifNo X3.here hx rfl (hb hby d15_22) rfl ((if0 _ _).trans (feq hic).1) k) ?_
  refine own_s T3 (mkF m 26 #[rv wa, rv sa, rv sa] [.ref wa]) (fun t k => XS.aloadN X3.here hx rfl (hb hby d15_25) rfl rfl k) ?_
  obtain ⟨T4, X4, e4, st4⟩ := getF X3 hx hZ hown (host := "") (Or.inl (hW 20 _ rfl)) Via.refl e3 F_1 (g := (mkF m 26 #[rv wa, rv sa, rv sa] [.ref wa])) rfl rfl (hb hby d15_26)
  refine own_s T4 (mkF m 29 #[rv wa, rv sa, rv sa] [.int 0]) st4 ?_
  refine own_s T4 (mkF m 30 #[rv wa, rv sa, rv sa] [.ref sa, .int 0]) (fun t k => XS.aloadN X4.here hx rfl (hb hby d15_29) rfl rfl k) ?_
  obtain ⟨T5, X5, e5, st5⟩ := getF X4 hx hZ hown (host := "") (Or.inl (hW 20 _ rfl)) Via.refl e4 F_5 (g := (mkF m 30 #[rv wa, rv sa, rv sa] [.ref sa, .int 0])) rfl rfl (hb hby d15_30)
  refine own_s T5 (mkF m 33 #[rv wa, rv sa, rv sa] [.int 0, .int 0]) st5 ?_
  refine own_s T5 (mkF m 36 #[rv wa, rv sa, rv sa] []) (fun t k => XS.icmpNo X5.here hx rfl (hb hby d15_33) rfl (teq (by decide : ((0 : Int32) = (0 : Int32)))).2 k) ?_
  refine own_s T5 (mkF m 37 #[rv wa, rv sa, rv sa] [.ref wa]) (fun t k => XS.aloadN X5.here hx rfl (hb hby d15_36) rfl rfl k) ?_
  obtain ⟨T6, X6, e6, st6⟩ := getF X5 hx hZ hown (host := "") (Or.inl (hW 13 _ rfl)) Via.refl e5 F_2 (g := (mkF m 37 #[rv wa, rv sa, rv sa] [.ref wa])) rfl rfl (hb hby d15_37)
  refine own_s T6 (mkF m 40 #[rv wa, rv sa, rv sa] [.ref wb]) st6 ?_
  refine own_s T6 (mkF m 41 #[rv wa, rv sa, rv sa] [.ref sa, .ref wb]) (fun t k => XS.aloadN X6.here hx rfl (hb hby d15_40) rfl rfl k) ?_
  obtain ⟨T7, X7, e7, st7⟩ := getF X6 hx hZ hown (host := "") (Or.inl (hW 13 _ rfl)) Via.refl e6 F_6 (g := (mkF m 41 #[rv wa, rv sa, rv sa] [.ref sa, .ref wb])) rfl rfl (hb hby d15_41)
  refine own_s T7 (mkF m 44 #[rv wa, rv sa, rv sa] [.ref sb, .ref wb]) st7 ?_
  obtain ⟨_, _, ⟨T10, L10, k10, n10⟩, -, X10, ⟨Lc10, hQ10, lq10, yq10, zq10⟩, st10⟩ := Jvm.LawKit.callS X7 hx (y := (⟨"java/lang/StringLatin1", "equals", "([B[B)Z"⟩ : MethodName)) hown (mvT hZ (hW 76 _ rfl)) (mvT hZ (hW 77 _ rfl)) (mvT hZ (hW 39 _ rfl)) (mvT hZ (hW 78 _ rfl)) (by decide) (backOf (W := 0) (rm_leqI1 l Z a0 hw [] wb wk zn wl sb sk h0 n0 Z0 F_7 F_3 hform) hZ (hW 78 _ rfl) (hW 39 _ rfl) (by decide) (by decide)) (g := (mkF m 44 #[rv wa, rv sa, rv sa] [.ref sb, .ref wb])) rfl (by rw [hml]; rfl) (argsL := [(.ref wb), (.ref sb)]) (rest := []) (lenOf pd_11 rfl) rfl (by show 2 * 0 + _ ≤ _; exact Nat.le_of_eq rfl) (hb hby d15_44) (fun _ _ => ⟨rfl, e7, (by decide : 0 + 0 ≤ _), (by decide : 0 + 0 ≤ _)⟩)
  dsimp only [Pt.U, Pt.locs, Pt.cells, Pt.slots] at X10 lq10 yq10 zq10 st10 hQ10
  subst lq10 yq10 zq10
  obtain ⟨rfl, Nq10, eq9⟩ := hQ10
  have N10 := Fr.app N0 Nq10
  refine own_s T10 (mkF m 47 #[rv wa, rv sa, rv sa] [.int (own_beq wl own_LI)]) st10 ?_
  by_cases c47 : (own_beq wl own_LI) = (0 : Int32)
  · refine own_s T10 (mkF m 54 #[rv wa, rv sa, rv sa] []) (fun t k => XS.ifYes X10.here hx rfl (pc0 := 47) (pc' := 54) rfl (hb hby d15_47) rfl ((if0 _ _).trans (teq c47).1) (by decide) (by decide) k) ?_
    refine own_s T10 (mkF m 55 #[rv wa, rv sa, rv sa] [.int 0]) (fun t k => XS.iconst X10.here hx rfl (hb hby d15_54) k) ?_
    refine own_rN X10 hx hlk Bd.returns (by simp) (hb hby d15_55) ?_ (by decide) (by decide)
    rw [eq9]
    exact ⟨congrArg (fun z => some (Value.int z)) (Eq.symm (c47)), N10, rfl⟩
  · refine own_s T10 (mkF m 50 #[rv wa, rv sa, rv sa] []) (fun t k => XS.ifNo X10.here hx rfl (hb hby d15_47) rfl ((if0 _ _).trans (feq c47).1) k) ?_
    refine own_s T10 (mkF m 51 #[rv wa, rv sa, rv sa] [.int 1]) (fun t k => XS.iconst X10.here hx rfl (hb hby d15_50) k) ?_
    refine own_s T10 (mkF m 55 #[rv wa, rv sa, rv sa] [.int 1]) (fun t k => XS.goto X10.here hx rfl (pc0 := 51) (pc' := 55) rfl (hb hby d15_51) (by decide) (by decide) k) ?_
    refine own_rN X10 hx hlk Bd.returns (by simp) (hb hby d15_55) ?_ (by decide) (by decide)
    rw [eq9]
    exact ⟨congrArg (fun z => some (Value.int z)) (Eq.symm (own_b1 c47)), N10, rfl⟩
def Q_seqI0 (Z : State) (wa : Addr) (wb : Addr) (wk : ClassId) (zn : Int32) (wl : List Value) (sa : Addr) (sb : Addr) (sk : ClassId) (ic : Int32) (h0 : Heap) (n0 : Nat) (v : Option Value) (h : Heap) (L : List Loc) : Prop := v = some (.int (own_beq wl own_LI)) ∧ Fr n0 L ∧ h = h0
theorem ef_rm_seqI0 (m : MethodId) (x0 : Addr) (x1 : Addr) : entryFrame m #[(.ref x0), (.ref x1)] 3 = mkF m 0 #[.val (.ref x0), .val (.ref x1), .unset] [] := by first | (simp [entryFrame, mkF, argsToLocals, Value.category]; done) | rfl | (simp [entryFrame, mkF, argsToLocals, Value.category] <;> rfl)
set_option maxRecDepth 65536 in
set_option maxHeartbeats 40000000 in
theorem rm_seqI0 (l : Launch) (Z : State) (a0 : Array Value) (hw : ∀ d ∈ tables_1, d.before a0 Z = true) (ws : List Jvm.Cond) (wa : Addr) (wb : Addr) (wk : ClassId) (zn : Int32) (wl : List Value) (sa : Addr) (sb : Addr) (sk : ClassId) (ic : Int32) (h0 : Heap) (n0 : Nat) (Z0 : n0 ≤ h0.size) (F_0 : Exa Z h0 wa "java/lang/String") (F_1 : Fld Z h0 wa "java/lang/String" "coder" "B" (.int (0 : Int32))) (F_2 : Fld Z h0 wa "java/lang/String" "value" "[B" (.ref wb)) (F_3 : Arv Z h0 wb wk .byte zn wl (.int (0 : Int32))) (F_4 : Exa Z h0 sa "java/lang/String") (F_5 : Fld Z h0 sa "java/lang/String" "coder" "B" (.int (0 : Int32))) (F_6 : Fld Z h0 sa "java/lang/String" "value" "[B" (.ref sb)) (F_7 : Arv Z h0 sb sk .byte (7 : Int32) [(.int (105 : Int32)), (.int (110 : Int32)), (.int (118 : Int32)), (.int (97 : Int32)), (.int (108 : Int32)), (.int (105 : Int32)), (.int (100 : Int32))] (.int (0 : Int32))) (n_sa_wa : sa ≠ wa) (O0 : Old Z n0 h0) (hform : own_form zn wl) (S_c : Sta Z Z.heap "java/lang/String" "COMPACT_STRINGS" "Z" (.int ic)) (hic : ¬ ic = 0) :
    MetFree l (⟨"java/lang/String", "equals", "(Ljava/lang/Object;)Z"⟩ : MethodName) (head1 (Jvm.Cond.code (⟨"java/lang/String", "equals", "(Ljava/lang/Object;)Z"⟩ : MethodName) jdk_42_method_66_code 3 (some (.boolean)) :: ws) ({ frames := 1, cells := 0, slots := 0, locals := 14 } : Room)) (fun a U => a = #[(.ref sa), (.ref wa)] ∧ Z.Warmed39 U.vm ∧ U.heap = h0) (fun _ _ _ _ _ => True) (fun _ U o U' => ∃ v L, o = .returned v ∧ (Q_seqI0 Z wa wb wk zn wl sa sb sk ic h0 n0) v U'.heap L ∧ FrameEnd U o U' L ({ frames := 1, cells := 0, slots := 0, locals := 14 } : Room).cells ({ frames := 1, cells := 0, slots := 0, locals := 14 } : Room).slots) := by
  refine MetFree.of_bodySF (plainFor_of_name pn_0) hisR ?_
  intro p e s m args below meth c s₁ Bd hml0 hP hK
  obtain ⟨rfl, hZ, hh⟩ := hP
  have hx := Bd.exec
  have hby := Bd.bytes
  have hW := fun i d (h : tables_1[i]? = some d) => hw d (List.mem_of_getElem? h)
  have hlk : meth.locks = false := BodyLoose.notSynchronized Bd
  have hml : c.maxLocals = 3 := hml0
  have hown : s.vm.findClass "java/lang/String" = some m.cls := findClass_of_methodNamed Bd.named
  have hnm := (name_of_methodNamed Bd.named Bd.method).1
  have X0 : Stand p l e ({ frames := 1, cells := 0, slots := 0, locals := 14 } : Room) s m #[(.ref sa), (.ref wa)] below meth c s₁ [] 0 0 := Stand.of_body Bd
  have e0 : s₁.heap = h0 := by rw [← hh, Bd.state]; rfl
  have N0 := Fr.nil n0
  show own_Go p e below s (Q_seqI0 Z wa wb wk zn wl sa sb sk ic h0 n0) ({ frames := 1, cells := 0, slots := 0, locals := 14 } : Room).cells ({ frames := 1, cells := 0, slots := 0, locals := 14 } : Room).slots s₁ (entryFrame m #[(.ref sa), (.ref wa)] 3)
  refine own_cast (g' := (mkF m 0 #[rv sa, rv wa, u_] [])) (ef_rm_seqI0 m sa wa) ?_
  refine own_s s₁ (mkF m 1 #[rv sa, rv wa, u_] [.ref sa]) (fun t k => XS.aloadN X0.here hx rfl (hb hby d15_0) rfl rfl k) ?_
  refine own_s s₁ (mkF m 2 #[rv sa, rv wa, u_] [.ref wa, .ref sa]) (fun t k => XS.aloadN X0.here hx rfl (hb hby d15_1) rfl rfl k) ?_
  refine own_s s₁ (mkF m 7 #[rv sa, rv wa, u_] []) (fun t k => acmp (g := (mkF m 2 #[rv sa, rv wa, u_] [.ref wa, .ref sa])) X0 hx rfl (x := (.ref sa)) (y := (.ref wa)) rfl rfl (pc0 := 2) (pc' := 7) (same := false) rfl (hb hby d15_2) rfl (decide_eq_false (fun q => n_sa_wa (Value.ref.inj q))) (by decide) rfl k) ?_
  refine own_s s₁ (mkF m 8 #[rv sa, rv wa, u_] [.ref wa]) (fun t k => XS.aloadN X0.here hx rfl (hb hby d15_7) rfl rfl k) ?_
  obtain ⟨T1, X1, e1, st1⟩ := instY X0 hx hZ hown (hW 75 _ rfl) e0 (Ins.self F_0) (g := (mkF m 8 #[rv sa, rv wa, u_] [.ref wa])) rfl rfl (hb hby d15_8)
  refine own_s T1 (mkF m 11 #[rv sa, rv wa, u_] [.int 1]) st1 ?_
  refine own_s T1 (mkF m 14 #[rv sa, rv wa, u_] []) (fun t k => XS.ifNo X1.here hx rfl (hb hby d15_11) rfl ((if0 _ _).trans (feq (by decide : ¬ ((1 : Int32) = (0 : Int32)))).1) k) ?_
  refine own_s T1 (mkF m 15 #[rv sa, rv wa, u_] [.ref wa]) (fun t k => XS.aloadN X1.here hx rfl (hb hby d15_14) rfl rfl k) ?_
  obtain ⟨T2, X2, e2, st2⟩ := castY X1 hx hZ hown (hW 75 _ rfl) e1 (Ins.self F_0) (g := (mkF m 15 #[rv sa, rv wa, u_] [.ref wa])) rfl rfl (hb hby d15_15)
  refine own_s T2 (mkF m 18 #[rv sa, rv wa, u_] [.ref wa]) st2 ?_
  refine own_s T2 (mkF m 19 #[rv sa, rv wa, rv wa] []) (fun t k => XS.astoreN X2.here hx rfl (hb hby d15_18) rfl rfl (l' := #[rv sa, rv wa, rv wa]) rfl k) ?_
  obtain ⟨T3, X3, e3, st3⟩ := getS2 X2 hx hZ hown (host := "") (Or.inl (hW 19 _ rfl)) Via.refl e2 (S_c.ext O0.2) (g := (mkF m 19 #[rv sa, rv wa, rv wa] [])) rfl (hb hby d15_19)
  refine own_s T3 (mkF m 22 #[rv sa, rv wa, rv wa] [.int ic]) st3 ?_
  refine own_s T3 (mkF m 25 #[rv sa, rv wa, rv wa] []) (fun t k => XS.ifNo X3.here hx rfl (hb hby d15_22) rfl ((if0 _ _).trans (feq hic).1) k) ?_
  refine own_s T3 (mkF m 26 #[rv sa, rv wa, rv wa] [.ref sa]) (fun t k => XS.aloadN X3.here hx rfl (hb hby d15_25) rfl rfl k) ?_
  obtain ⟨T4, X4, e4, st4⟩ := getF X3 hx hZ hown (host := "") (Or.inl (hW 20 _ rfl)) Via.refl e3 F_5 (g := (mkF m 26 #[rv sa, rv wa, rv wa] [.ref sa])) rfl rfl (hb hby d15_26)
  refine own_s T4 (mkF m 29 #[rv sa, rv wa, rv wa] [.int 0]) st4 ?_
  refine own_s T4 (mkF m 30 #[rv sa, rv wa, rv wa] [.ref wa, .int 0]) (fun t k => XS.aloadN X4.here hx rfl (hb hby d15_29) rfl rfl k) ?_
  obtain ⟨T5, X5, e5, st5⟩ := getF X4 hx hZ hown (host := "") (Or.inl (hW 20 _ rfl)) Via.refl e4 F_1 (g := (mkF m 30 #[rv sa, rv wa, rv wa] [.ref wa, .int 0])) rfl rfl (hb hby d15_30)
  refine own_s T5 (mkF m 33 #[rv sa, rv wa, rv wa] [.int 0, .int 0]) st5 ?_
  refine own_s T5 (mkF m 36 #[rv sa, rv wa, rv wa] []) (fun t k => XS.icmpNo X5.here hx rfl (hb hby d15_33) rfl (teq (by decide : ((0 : Int32) = (0 : Int32)))).2 k) ?_
  refine own_s T5 (mkF m 37 #[rv sa, rv wa, rv wa] [.ref sa]) (fun t k => XS.aloadN X5.here hx rfl (hb hby d15_36) rfl rfl k) ?_
  obtain ⟨T6, X6, e6, st6⟩ := getF X5 hx hZ hown (host := "") (Or.inl (hW 13 _ rfl)) Via.refl e5 F_6 (g := (mkF m 37 #[rv sa, rv wa, rv wa] [.ref sa])) rfl rfl (hb hby d15_37)
  refine own_s T6 (mkF m 40 #[rv sa, rv wa, rv wa] [.ref sb]) st6 ?_
  refine own_s T6 (mkF m 41 #[rv sa, rv wa, rv wa] [.ref wa, .ref sb]) (fun t k => XS.aloadN X6.here hx rfl (hb hby d15_40) rfl rfl k) ?_
  obtain ⟨T7, X7, e7, st7⟩ := getF X6 hx hZ hown (host := "") (Or.inl (hW 13 _ rfl)) Via.refl e6 F_2 (g := (mkF m 41 #[rv sa, rv wa, rv wa] [.ref wa, .ref sb])) rfl rfl (hb hby d15_41)
  refine own_s T7 (mkF m 44 #[rv sa, rv wa, rv wa] [.ref wb, .ref sb]) st7 ?_
  obtain ⟨_, _, ⟨T10, L10, k10, n10⟩, -, X10, ⟨Lc10, hQ10, lq10, yq10, zq10⟩, st10⟩ := Jvm.LawKit.callS X7 hx (y := (⟨"java/lang/StringLatin1", "equals", "([B[B)Z"⟩ : MethodName)) hown (mvT hZ (hW 76 _ rfl)) (mvT hZ (hW 77 _ rfl)) (mvT hZ (hW 39 _ rfl)) (mvT hZ (hW 78 _ rfl)) (by decide) (backOf (W := 0) (rm_leqI0 l Z a0 hw [] wb wk zn wl sb sk h0 n0 Z0 F_7 F_3 hform) hZ (hW 78 _ rfl) (hW 39 _ rfl) (by decide) (by decide)) (g := (mkF m 44 #[rv sa, rv wa, rv wa] [.ref wb, .ref sb])) rfl (by rw [hml]; rfl) (argsL := [(.ref sb), (.ref wb)]) (rest := []) (lenOf pd_11 rfl) rfl (by show 2 * 0 + _ ≤ _; exact Nat.le_of_eq rfl) (hb hby d15_44) (fun _ _ => ⟨rfl, e7, (by decide : 0 + 0 ≤ _), (by decide : 0 + 0 ≤ _)⟩)
  dsimp only [Pt.U, Pt.locs, Pt.cells, Pt.slots] at X10 lq10 yq10 zq10 st10 hQ10
  subst lq10 yq10 zq10
  obtain ⟨rfl, Nq10, eq9⟩ := hQ10
  have N10 := Fr.app N0 Nq10
  refine own_s T10 (mkF m 47 #[rv sa, rv wa, rv wa] [.int (own_beq wl own_LI)]) st10 ?_
  by_cases c47 : (own_beq wl own_LI) = (0 : Int32)
  · refine own_s T10 (mkF m 54 #[rv sa, rv wa, rv wa] []) (fun t k => XS.ifYes X10.here hx rfl (pc0 := 47) (pc' := 54) rfl (hb hby d15_47) rfl ((if0 _ _).trans (teq c47).1) (by decide) (by decide) k) ?_
    refine own_s T10 (mkF m 55 #[rv sa, rv wa, rv wa] [.int 0]) (fun t k => XS.iconst X10.here hx rfl (hb hby d15_54) k) ?_
    refine own_rN X10 hx hlk Bd.returns (by simp) (hb hby d15_55) ?_ (by decide) (by decide)
    rw [eq9]
    exact ⟨congrArg (fun z => some (Value.int z)) (Eq.symm (c47)), N10, rfl⟩
  · refine own_s T10 (mkF m 50 #[rv sa, rv wa, rv wa] []) (fun t k => XS.ifNo X10.here hx rfl (hb hby d15_47) rfl ((if0 _ _).trans (feq c47).1) k) ?_
    refine own_s T10 (mkF m 51 #[rv sa, rv wa, rv wa] [.int 1]) (fun t k => XS.iconst X10.here hx rfl (hb hby d15_50) k) ?_
    refine own_s T10 (mkF m 55 #[rv sa, rv wa, rv wa] [.int 1]) (fun t k => XS.goto X10.here hx rfl (pc0 := 51) (pc' := 55) rfl (hb hby d15_51) (by decide) (by decide) k) ?_
    refine own_rN X10 hx hlk Bd.returns (by simp) (hb hby d15_55) ?_ (by decide) (by decide)
    rw [eq9]
    exact ⟨congrArg (fun z => some (Value.int z)) (Eq.symm (own_b1 c47)), N10, rfl⟩
def Q_seqN (Z : State) (sa : Addr) (h0 : Heap) (n0 : Nat) (v : Option Value) (h : Heap) (L : List Loc) : Prop := v = some (.int (0 : Int32)) ∧ Fr n0 L ∧ h = h0
theorem ef_rm_seqN (m : MethodId) (x0 : Addr) : entryFrame m #[(.ref x0), .null] 3 = mkF m 0 #[.val (.ref x0), .val .null, .unset] [] := by first | (simp [entryFrame, mkF, argsToLocals, Value.category]; done) | rfl | (simp [entryFrame, mkF, argsToLocals, Value.category] <;> rfl)
set_option maxRecDepth 65536 in
set_option maxHeartbeats 40000000 in
theorem rm_seqN (l : Launch) (Z : State) (a0 : Array Value) (hw : ∀ d ∈ tables_1, d.before a0 Z = true) (ws : List Jvm.Cond) (sa : Addr) (h0 : Heap) (n0 : Nat) (Z0 : n0 ≤ h0.size)  :
    MetFree l (⟨"java/lang/String", "equals", "(Ljava/lang/Object;)Z"⟩ : MethodName) (head1 (Jvm.Cond.code (⟨"java/lang/String", "equals", "(Ljava/lang/Object;)Z"⟩ : MethodName) jdk_42_method_66_code 3 (some (.boolean)) :: ws) ({ frames := 0, cells := 0, slots := 0, locals := 0 } : Room)) (fun a U => a = #[(.ref sa), .null] ∧ Z.Warmed39 U.vm ∧ U.heap = h0) (fun _ _ _ _ _ => True) (fun _ U o U' => ∃ v L, o = .returned v ∧ (Q_seqN Z sa h0 n0) v U'.heap L ∧ FrameEnd U o U' L ({ frames := 0, cells := 0, slots := 0, locals := 0 } : Room).cells ({ frames := 0, cells := 0, slots := 0, locals := 0 } : Room).slots) := by
  refine MetFree.of_bodySF (plainFor_of_name pn_0) hisR ?_
  intro p e s m args below meth c s₁ Bd hml0 hP hK
  obtain ⟨rfl, hZ, hh⟩ := hP
  have hx := Bd.exec
  have hby := Bd.bytes
  have hW := fun i d (h : tables_1[i]? = some d) => hw d (List.mem_of_getElem? h)
  have hlk : meth.locks = false := BodyLoose.notSynchronized Bd
  have hml : c.maxLocals = 3 := hml0
  have hown : s.vm.findClass "java/lang/String" = some m.cls := findClass_of_methodNamed Bd.named
  have hnm := (name_of_methodNamed Bd.named Bd.method).1
  have X0 : Stand p l e ({ frames := 0, cells := 0, slots := 0, locals := 0 } : Room) s m #[(.ref sa), .null] below meth c s₁ [] 0 0 := Stand.of_body Bd
  have e0 : s₁.heap = h0 := by rw [← hh, Bd.state]; rfl
  have N0 := Fr.nil n0
  show own_Go p e below s (Q_seqN Z sa h0 n0) ({ frames := 0, cells := 0, slots := 0, locals := 0 } : Room).cells ({ frames := 0, cells := 0, slots := 0, locals := 0 } : Room).slots s₁ (entryFrame m #[(.ref sa), .null] 3)
  refine own_cast (g' := (mkF m 0 #[rv sa, .val .null, u_] [])) (ef_rm_seqN m sa) ?_
  refine own_s s₁ (mkF m 1 #[rv sa, .val .null, u_] [.ref sa]) (fun t k => XS.aloadN X0.here hx rfl (hb hby d15_0) rfl rfl k) ?_
  refine own_s s₁ (mkF m 2 #[rv sa, .val .null, u_] [.null, .ref sa]) (fun t k => XS.aloadN X0.here hx rfl (hb hby d15_1) rfl rfl k) ?_
  refine own_s s₁ (mkF m 7 #[rv sa, .val .null, u_] []) (fun t k => acmp (g := (mkF m 2 #[rv sa, .val .null, u_] [.null, .ref sa])) X0 hx rfl (x := (.ref sa)) (y := .null) rfl rfl (pc0 := 2) (pc' := 7) (same := false) rfl (hb hby d15_2) rfl (decide_eq_false (fun q => by cases q)) (by decide) rfl k) ?_
  refine own_s s₁ (mkF m 8 #[rv sa, .val .null, u_] [.null]) (fun t k => XS.aloadN X0.here hx rfl (hb hby d15_7) rfl rfl k) ?_
  refine own_s s₁ (mkF m 11 #[rv sa, .val .null, u_] [.int 0]) (instanceofNull X0 hx (g := (mkF m 8 #[rv sa, .val .null, u_] [.null])) rfl rfl (hb hby d15_8)) ?_
  refine own_s s₁ (mkF m 54 #[rv sa, .val .null, u_] []) (fun t k => XS.ifYes X0.here hx rfl (pc0 := 11) (pc' := 54) rfl (hb hby d15_11) rfl ((if0 _ _).trans (teq (by decide : ((0 : Int32) = (0 : Int32)))).1) (by decide) (by decide) k) ?_
  refine own_s s₁ (mkF m 55 #[rv sa, .val .null, u_] [.int 0]) (fun t k => XS.iconst X0.here hx rfl (hb hby d15_54) k) ?_
  refine own_rN X0 hx hlk Bd.returns (by simp) (hb hby d15_55) ?_ (by decide) (by decide)
  rw [e0]
  exact ⟨rfl, N0, rfl⟩
def Q_rnn (Z : State) (xa : Addr) (h0 : Heap) (n0 : Nat) (v : Option Value) (h : Heap) (L : List Loc) : Prop := v = some (.ref xa) ∧ Fr n0 L ∧ h = h0
theorem ef_rm_rnn (m : MethodId) (x0 : Addr) : entryFrame m #[(.ref x0)] 1 = mkF m 0 #[.val (.ref x0)] [] := by first | (simp [entryFrame, mkF, argsToLocals, Value.category]; done) | rfl | (simp [entryFrame, mkF, argsToLocals, Value.category] <;> rfl)
theorem pn_5 : plainName "java/util/Objects" = true := by first | (simp [plainName, overriddenIn]; done) | decide +kernel
theorem d20_0 : decode jdk_31_method_10_code 0 = .ok (.aload_n 0, 1) := by decide +kernel
theorem d20_1 : decode jdk_31_method_10_code 1 = .ok (.ifnonnull 11, 3) := by decide +kernel
theorem d20_12 : decode jdk_31_method_10_code 12 = .ok (.aload_n 0, 1) := by decide +kernel
theorem d20_13 : decode jdk_31_method_10_code 13 = .ok (.areturn, 1) := by decide +kernel
set_option maxRecDepth 65536 in
set_option maxHeartbeats 40000000 in
theorem rm_rnn (l : Launch) (Z : State) (a0 : Array Value) (hw : ∀ d ∈ tables_1, d.before a0 Z = true) (ws : List Jvm.Cond) (xa : Addr) (h0 : Heap) (n0 : Nat) (Z0 : n0 ≤ h0.size)  :
    MetFree l (⟨"java/util/Objects", "requireNonNull", "(Ljava/lang/Object;)Ljava/lang/Object;"⟩ : MethodName) (head1 (Jvm.Cond.code (⟨"java/util/Objects", "requireNonNull", "(Ljava/lang/Object;)Ljava/lang/Object;"⟩ : MethodName) jdk_31_method_10_code 1 (some (.object "java/lang/Object")) :: ws) ({ frames := 0, cells := 0, slots := 0, locals := 0 } : Room)) (fun a U => a = #[(.ref xa)] ∧ Z.Warmed39 U.vm ∧ U.heap = h0) (fun _ _ _ _ _ => True) (fun _ U o U' => ∃ v L, o = .returned v ∧ (Q_rnn Z xa h0 n0) v U'.heap L ∧ FrameEnd U o U' L ({ frames := 0, cells := 0, slots := 0, locals := 0 } : Room).cells ({ frames := 0, cells := 0, slots := 0, locals := 0 } : Room).slots) := by
  refine MetFree.of_bodySF (plainFor_of_name pn_5) hisR ?_
  intro p e s m args below meth c s₁ Bd hml0 hP hK
  obtain ⟨rfl, hZ, hh⟩ := hP
  have hx := Bd.exec
  have hby := Bd.bytes
  have hW := fun i d (h : tables_1[i]? = some d) => hw d (List.mem_of_getElem? h)
  have hlk : meth.locks = false := BodyLoose.notSynchronized Bd
  have hml : c.maxLocals = 1 := hml0
  have hown : s.vm.findClass "java/util/Objects" = some m.cls := findClass_of_methodNamed Bd.named
  have hnm := (name_of_methodNamed Bd.named Bd.method).1
  have X0 : Stand p l e ({ frames := 0, cells := 0, slots := 0, locals := 0 } : Room) s m #[(.ref xa)] below meth c s₁ [] 0 0 := Stand.of_body Bd
  have e0 : s₁.heap = h0 := by rw [← hh, Bd.state]; rfl
  have N0 := Fr.nil n0
  show own_Go p e below s (Q_rnn Z xa h0 n0) ({ frames := 0, cells := 0, slots := 0, locals := 0 } : Room).cells ({ frames := 0, cells := 0, slots := 0, locals := 0 } : Room).slots s₁ (entryFrame m #[(.ref xa)] 1)
  refine own_cast (g' := (mkF m 0 #[rv xa] [])) (ef_rm_rnn m xa) ?_
  refine own_s s₁ (mkF m 1 #[rv xa] [.ref xa]) (fun t k => XS.aloadN X0.here hx rfl (hb hby d20_0) rfl rfl k) ?_
  refine own_s s₁ (mkF m 12 #[rv xa] []) (fun t k => XS.ifnonnullYes X0.here hx rfl (pc0 := 1) (pc' := 12) rfl (hb hby d20_1) rfl (by decide) (by decide) k) ?_
  refine own_s s₁ (mkF m 13 #[rv xa] [.ref xa]) (fun t k => XS.aloadN X0.here hx rfl (hb hby d20_12) rfl rfl k) ?_
  refine own_rA X0 hx hlk Bd.returns rfl (w := (.ref xa)) rfl (hb hby d20_13) ?_ (by decide) (by decide)
  rw [e0]
  exact ⟨rfl, N0, rfl⟩
def Q_oin (Z : State) (a1 : Addr) (x2 : Addr) (h0 : Heap) (n0 : Nat) (v : Option Value) (h : Heap) (L : List Loc) : Prop := v = none ∧ Fr n0 L ∧ Keep h0 h [a1] ∧ Exa Z h a1 "java/util/Optional" ∧ Fld Z h a1 "java/util/Optional" "value" "Ljava/lang/Object;" (.ref x2)
theorem ef_rm_oin (m : MethodId) (x0 : Addr) (x1 : Addr) : entryFrame m #[(.ref x0), (.ref x1)] 2 = mkF m 0 #[.val (.ref x0), .val (.ref x1)] [] := by first | (simp [entryFrame, mkF, argsToLocals, Value.category]; done) | rfl | (simp [entryFrame, mkF, argsToLocals, Value.category] <;> rfl)
theorem pn_6 : plainName "java/util/Optional" = true := by first | (simp [plainName, overriddenIn]; done) | decide +kernel
theorem d21_0 : decode jdk_32_method_2_code 0 = .ok (.aload_n 0, 1) := by decide +kernel
theorem d21_1 : decode jdk_32_method_2_code 1 = .ok (.invokespecial 7, 3) := by decide +kernel
theorem d21_4 : decode jdk_32_method_2_code 4 = .ok (.aload_n 0, 1) := by decide +kernel
theorem d21_5 : decode jdk_32_method_2_code 5 = .ok (.aload_n 1, 1) := by decide +kernel
theorem d21_6 : decode jdk_32_method_2_code 6 = .ok (.putfield 13, 3) := by decide +kernel
theorem d21_9 : decode jdk_32_method_2_code 9 = .ok (.return_, 1) := by decide +kernel
set_option maxRecDepth 65536 in
set_option maxHeartbeats 40000000 in
theorem rm_oin (l : Launch) (Z : State) (a0 : Array Value) (hw : ∀ d ∈ tables_1, d.before a0 Z = true) (ws : List Jvm.Cond) (a1 : Addr) (x2 : Addr) (u0 : Value) (h0 : Heap) (n0 : Nat) (Z0 : n0 ≤ h0.size) (E_a : Exa Z h0 a1 "java/util/Optional") (F0 : Fld Z h0 a1 "java/util/Optional" "value" "Ljava/lang/Object;" u0) (o_a : n0 ≤ a1) :
    MetFree l (⟨"java/util/Optional", "<init>", "(Ljava/lang/Object;)V"⟩ : MethodName) (head1 (Jvm.Cond.code (⟨"java/util/Optional", "<init>", "(Ljava/lang/Object;)V"⟩ : MethodName) jdk_32_method_2_code 2 none :: ws) ({ frames := 1, cells := 0, slots := 0, locals := 12 } : Room)) (fun a U => a = #[(.ref a1), (.ref x2)] ∧ Z.Warmed39 U.vm ∧ U.heap = h0) (fun _ _ _ _ _ => True) (fun _ U o U' => ∃ v L, o = .returned v ∧ (Q_oin Z a1 x2 h0 n0) v U'.heap L ∧ FrameEnd U o U' L ({ frames := 1, cells := 0, slots := 0, locals := 12 } : Room).cells ({ frames := 1, cells := 0, slots := 0, locals := 12 } : Room).slots) := by
  refine MetFree.of_bodySF (plainFor_of_name pn_6) hisR ?_
  intro p e s m args below meth c s₁ Bd hml0 hP hK
  obtain ⟨rfl, hZ, hh⟩ := hP
  have hx := Bd.exec
  have hby := Bd.bytes
  have hW := fun i d (h : tables_1[i]? = some d) => hw d (List.mem_of_getElem? h)
  have hlk : meth.locks = false := BodyLoose.notSynchronized Bd
  have hml : c.maxLocals = 2 := hml0
  have hown : s.vm.findClass "java/util/Optional" = some m.cls := findClass_of_methodNamed Bd.named
  have hnm := (name_of_methodNamed Bd.named Bd.method).1
  have X0 : Stand p l e ({ frames := 1, cells := 0, slots := 0, locals := 12 } : Room) s m #[(.ref a1), (.ref x2)] below meth c s₁ [] 0 0 := Stand.of_body Bd
  have e0 : s₁.heap = h0 := by rw [← hh, Bd.state]; rfl
  have N0 := Fr.nil n0
  show own_Go p e below s (Q_oin Z a1 x2 h0 n0) ({ frames := 1, cells := 0, slots := 0, locals := 12 } : Room).cells ({ frames := 1, cells := 0, slots := 0, locals := 12 } : Room).slots s₁ (entryFrame m #[(.ref a1), (.ref x2)] 2)
  refine own_cast (g' := (mkF m 0 #[rv a1, rv x2] [])) (ef_rm_oin m a1 x2) ?_
  have K0 : Keep h0 h0 [a1] := Keep.refl _ _
  refine own_s s₁ (mkF m 1 #[rv a1, rv x2] [.ref a1]) (fun t k => XS.aloadN X0.here hx rfl (hb hby d21_0) rfl rfl k) ?_
  obtain ⟨T1, X1, e1, st1⟩ := initO X0 hx hZ hown (hW 118 _ rfl) (hW 58 _ rfl) (hW 59 _ rfl) e0 (g := (mkF m 1 #[rv a1, rv x2] [.ref a1])) rfl (by rw [hml]; rfl) rfl (hb hby d21_1) (by decide) (W := 0) (by show 2 * 0 + _ ≤ _; exact Nat.le_of_eq rfl) (by decide)
  refine own_s T1 (mkF m 4 #[rv a1, rv x2] []) st1 ?_
  refine own_s T1 (mkF m 5 #[rv a1, rv x2] [.ref a1]) (fun t k => XS.aloadN X1.here hx rfl (hb hby d21_4) rfl rfl k) ?_
  refine own_s T1 (mkF m 6 #[rv a1, rv x2] [.ref x2, .ref a1]) (fun t k => XS.aloadN X1.here hx rfl (hb hby d21_5) rfl rfl k) ?_
  obtain ⟨T2, h2, X2, e2, W2, st2⟩ := putF X1 hx hZ hown (host := "") (Or.inl (hW 119 _ rfl)) Via.refl e1 F0 E_a (Or.inr ⟨(hW 120 _ rfl), rfl, hnm⟩) (hW 109 _ rfl) (ty := .object "java/lang/Object") (by decide) rfl rfl (g := (mkF m 6 #[rv a1, rv x2] [.ref x2, .ref a1])) rfl rfl (hb hby d21_6)
  have g3 := E_a.wr W2
  have g4 : Fld Z h2 a1 "java/util/Optional" "value" "Ljava/lang/Object;" (.ref x2) := F0.same W2
  have K5 : Keep h0 h2 [a1] := K0.wr W2 (Or.inl (List.mem_of_getElem? (i := 0) rfl))
  have N2 := Fr.snoc X2 N0 o_a
  have Z2 : n0 ≤ h2.size := (Nat.le_trans Z0 (Nat.le_of_eq W2.size.symm))
  refine own_s T2 (mkF m 9 #[rv a1, rv x2] []) st2 ?_
  refine own_rV X2 hx hlk Bd.returns (hb hby d21_9) ?_ (by decide) (by decide)
  rw [e2]
  exact ⟨rfl, N2, K5, g3, g4⟩
def Q_oof (Z : State) (xa : Addr) (h0 : Heap) (n0 : Nat) (v : Option Value) (h : Heap) (L : List Loc) : Prop := ∃ (ob : Addr), v = some (.ref ob) ∧ Fr n0 L ∧ Keep h0 h [] ∧ h0.size ≤ ob ∧ Exa Z h ob "java/util/Optional" ∧ Fld Z h ob "java/util/Optional" "value" "Ljava/lang/Object;" (.ref xa)
theorem ef_rm_oof (m : MethodId) (x0 : Addr) : entryFrame m #[(.ref x0)] 1 = mkF m 0 #[.val (.ref x0)] [] := by first | (simp [entryFrame, mkF, argsToLocals, Value.category]; done) | rfl | (simp [entryFrame, mkF, argsToLocals, Value.category] <;> rfl)
theorem d19_0 : decode jdk_32_method_3_code 0 = .ok (.new 2, 3) := by decide +kernel
theorem d19_3 : decode jdk_32_method_3_code 3 = .ok (.dup, 1) := by decide +kernel
theorem d19_4 : decode jdk_32_method_3_code 4 = .ok (.aload_n 0, 1) := by decide +kernel
theorem pd_12 : parseMethodDescriptor "(Ljava/lang/Object;)Ljava/lang/Object;" = some ⟨[.object "java/lang/Object"], some (.object "java/lang/Object")⟩ := by decide +kernel
theorem d19_5 : decode jdk_32_method_3_code 5 = .ok (.invokestatic 17, 3) := by decide +kernel
theorem pd_13 : parseMethodDescriptor "(Ljava/lang/Object;)V" = some ⟨[.object "java/lang/Object"], none⟩ := by decide +kernel
theorem d19_8 : decode jdk_32_method_3_code 8 = .ok (.invokespecial 23, 3) := by decide +kernel
theorem d19_11 : decode jdk_32_method_3_code 11 = .ok (.areturn, 1) := by decide +kernel
set_option maxRecDepth 65536 in
set_option maxHeartbeats 40000000 in
theorem rm_oof (l : Launch) (Z : State) (a0 : Array Value) (hw : ∀ d ∈ tables_1, d.before a0 Z = true) (ws : List Jvm.Cond) (xa : Addr) (h0 : Heap) (n0 : Nat) (Z0 : n0 ≤ h0.size)  :
    MetFree l (⟨"java/util/Optional", "of", "(Ljava/lang/Object;)Ljava/util/Optional;"⟩ : MethodName) (head1 (Jvm.Cond.code (⟨"java/util/Optional", "of", "(Ljava/lang/Object;)Ljava/util/Optional;"⟩ : MethodName) jdk_32_method_3_code 1 (some (.object "java/util/Optional")) :: ws) ({ frames := 2, cells := 1, slots := 1, locals := 26 } : Room)) (fun a U => a = #[(.ref xa)] ∧ Z.Warmed39 U.vm ∧ U.heap = h0) (fun _ _ _ _ _ => True) (fun _ U o U' => ∃ v L, o = .returned v ∧ (Q_oof Z xa h0 n0) v U'.heap L ∧ FrameEnd U o U' L ({ frames := 2, cells := 1, slots := 1, locals := 26 } : Room).cells ({ frames := 2, cells := 1, slots := 1, locals := 26 } : Room).slots) := by
  refine MetFree.of_bodySF (plainFor_of_name pn_6) hisR ?_
  intro p e s m args below meth c s₁ Bd hml0 hP hK
  obtain ⟨rfl, hZ, hh⟩ := hP
  have hx := Bd.exec
  have hby := Bd.bytes
  have hW := fun i d (h : tables_1[i]? = some d) => hw d (List.mem_of_getElem? h)
  have hlk : meth.locks = false := BodyLoose.notSynchronized Bd
  have hml : c.maxLocals = 1 := hml0
  have hown : s.vm.findClass "java/util/Optional" = some m.cls := findClass_of_methodNamed Bd.named
  have hnm := (name_of_methodNamed Bd.named Bd.method).1
  have X0 : Stand p l e ({ frames := 2, cells := 1, slots := 1, locals := 26 } : Room) s m #[(.ref xa)] below meth c s₁ [] 0 0 := Stand.of_body Bd
  have e0 : s₁.heap = h0 := by rw [← hh, Bd.state]; rfl
  have N0 := Fr.nil n0
  show own_Go p e below s (Q_oof Z xa h0 n0) ({ frames := 2, cells := 1, slots := 1, locals := 26 } : Room).cells ({ frames := 2, cells := 1, slots := 1, locals := 26 } : Room).slots s₁ (entryFrame m #[(.ref xa)] 1)
  refine own_cast (g' := (mkF m 0 #[rv xa] [])) (ef_rm_oof m xa) ?_
  have K0 : Keep h0 h0 [] := Keep.refl _ _
  obtain ⟨T1, h1, X1, e1, E1, A1, D1, -, st1⟩ := newO X0 hx hZ hown (hW 108 _ rfl) (hW 109 _ rfl) (hW 106 _ rfl) e0 (g := (mkF m 0 #[rv xa] [])) rfl (hb hby d19_0) (by decide : 0 + 1 ≤ _) (by decide : 0 + 1 ≤ _)
  obtain ⟨ad1, g_ad1⟩ : ∃ z, z = h0.size := ⟨_, rfl⟩
  rw [← g_ad1] at A1 D1 st1
  have o1 : n0 ≤ ad1 := (Nat.le_trans Z0 (Nat.le_of_eq g_ad1.symm))
  have Z1 : n0 ≤ h1.size := (Nat.le_trans Z0 E1.1)
  have f1 : h0.size ≤ ad1 := by rw [g_ad1]; exact K0.1
  have K2 : Keep h0 h1 [] := K0.ext E1
  have g3 : Fld Z h1 ad1 "java/util/Optional" "value" "Ljava/lang/Object;" .null := D1 (Or.inr (hW 120 _ rfl)) (ty := .object "java/lang/Object") (by decide)
  refine own_s T1 (mkF m 3 #[rv xa] [.ref ad1]) st1 ?_
  refine own_s T1 (mkF m 4 #[rv xa] [.ref ad1, .ref ad1]) (fun t k => XS.dup X1.here hx rfl (hb hby d19_3) rfl rfl k) ?_
  refine own_s T1 (mkF m 5 #[rv xa] [.ref xa, .ref ad1, .ref ad1]) (fun t k => XS.aloadN X1.here hx rfl (hb hby d19_4) rfl rfl k) ?_
  obtain ⟨_, _, ⟨T6, L6, k6, n6⟩, -, X6, ⟨Lc6, hQ6, lq6, yq6, zq6⟩, st6⟩ := Jvm.LawKit.callS X1 hx (y := (⟨"java/util/Objects", "requireNonNull", "(Ljava/lang/Object;)Ljava/lang/Object;"⟩ : MethodName)) hown (mvT hZ (hW 110 _ rfl)) (mvT hZ (hW 111 _ rfl)) (mvT hZ (hW 112 _ rfl)) (mvT hZ (hW 113 _ rfl)) (by decide) (backOf (W := 2) (rm_rnn l Z a0 hw [] xa h1 n0 Z1 ) hZ (hW 113 _ rfl) (hW 112 _ rfl) (by decide) (by decide)) (g := (mkF m 5 #[rv xa] [.ref xa, .ref ad1, .ref ad1])) rfl (by rw [hml]; rfl) (argsL := [(.ref xa)]) (rest := [(.ref ad1), (.ref ad1)]) (lenOf pd_12 rfl) rfl (by show 2 * 0 + _ ≤ _; exact Nat.le_of_eq rfl) (hb hby d19_5) (fun _ _ => ⟨rfl, e1, (by decide : 1 + 0 ≤ _), (by decide : 1 + 0 ≤ _)⟩)
  dsimp only [Pt.U, Pt.locs, Pt.cells, Pt.slots] at X6 lq6 yq6 zq6 st6 hQ6
  subst lq6 yq6 zq6
  obtain ⟨rfl, Nq6, eq5⟩ := hQ6
  have N6 := Fr.app N0 Nq6
  refine own_s T6 (mkF m 8 #[rv xa] [.ref xa, .ref ad1, .ref ad1]) st6 ?_
  obtain ⟨_, _, ⟨T10, L10, k10, n10⟩, -, X10, ⟨Lc10, hQ10, lq10, yq10, zq10⟩, st10⟩ := X6.specialBack hx (y := (⟨"java/util/Optional", "<init>", "(Ljava/lang/Object;)V"⟩ : MethodName)) rfl hown (mvT hZ (hW 114 _ rfl)) (mvT hZ (hW 115 _ rfl)) (mvT hZ (hW 117 _ rfl)) (by decide) (backOf (W := 1) (rm_oin l Z a0 hw [] ad1 xa _ h1 n0 Z1 A1 g3 o1) hZ (hW 117 _ rfl) (hW 106 _ rfl) (by decide) (by decide)) (g := (mkF m 8 #[rv xa] [.ref xa, .ref ad1, .ref ad1])) rfl (by rw [hml]; rfl) (Steps.refl _) (a := ad1) (argsL := [(.ref xa)]) (rest := [(.ref ad1)]) (lenOf pd_13 rfl) rfl (by show 2 * 0 + _ ≤ _; exact Nat.le_of_eq rfl) (hb hby d19_8) (fun _ _ => ⟨rfl, eq5, (by decide : 1 + 0 ≤ _), (by decide : 1 + 0 ≤ _)⟩)
  dsimp only [Pt.U, Pt.locs, Pt.cells, Pt.slots] at X10 lq10 yq10 zq10 st10 hQ10
  subst lq10 yq10 zq10
  obtain ⟨rfl, Nq10, K7, g8, g9⟩ := hQ10
  have N10 := Fr.app N6 Nq10
  have Z7 : n0 ≤ T10.heap.size := (Nat.le_trans Z1 K7.1)
  have K11 : Keep h0 T10.heap [] := K2.trans K7 (allS (P := fun x => x ∈ [] ∨ h0.size ≤ x) (Or.inr f1) all0)
  refine own_tr (T' := T10) (g' := (mkF m 11 #[rv xa] [.ref ad1])) st10 ?_
  refine own_rA X10 hx hlk Bd.returns rfl (w := (.ref ad1)) rfl (hb hby d19_11) ?_ (by decide) (by decide)
  exact ⟨ad1, rfl, N10, K11, f1, g8, g9⟩
def Q_oem (Z : State) (oe : Addr) (h0 : Heap) (n0 : Nat) (v : Option Value) (h : Heap) (L : List Loc) : Prop := v = some (.ref oe) ∧ Fr n0 L ∧ h = h0
theorem ef_rm_oem (m : MethodId)  : entryFrame m #[] 1 = mkF m 0 #[.unset] [] := by first | (simp [entryFrame, mkF, argsToLocals, Value.category]; done) | rfl | (simp [entryFrame, mkF, argsToLocals, Value.category] <;> rfl)
theorem d23_0 : decode jdk_32_method_1_code 0 = .ok (.getstatic 1, 3) := by decide +kernel
theorem d23_3 : decode jdk_32_method_1_code 3 = .ok (.astore_n 0, 1) := by decide +kernel
theorem d23_4 : decode jdk_32_method_1_code 4 = .ok (.aload_n 0, 1) := by decide +kernel
theorem d23_5 : decode jdk_32_method_1_code 5 = .ok (.areturn, 1) := by decide +kernel
set_option maxRecDepth 65536 in
set_option maxHeartbeats 40000000 in
theorem rm_oem (l : Launch) (Z : State) (a0 : Array Value) (hw : ∀ d ∈ tables_1, d.before a0 Z = true) (ws : List Jvm.Cond) (oe : Addr) (h0 : Heap) (n0 : Nat) (Z0 : n0 ≤ h0.size) (O0 : Old Z n0 h0) (S_oe : Sta Z Z.heap "java/util/Optional" "EMPTY" "Ljava/util/Optional;" (.ref oe)) :
    MetFree l (⟨"java/util/Optional", "empty", "()Ljava/util/Optional;"⟩ : MethodName) (head1 (Jvm.Cond.code (⟨"java/util/Optional", "empty", "()Ljava/util/Optional;"⟩ : MethodName) jdk_32_method_1_code 1 (some (.object "java/util/Optional")) :: ws) ({ frames := 0, cells := 0, slots := 0, locals := 0 } : Room)) (fun a U => a = #[] ∧ Z.Warmed39 U.vm ∧ U.heap = h0) (fun _ _ _ _ _ => True) (fun _ U o U' => ∃ v L, o = .returned v ∧ (Q_oem Z oe h0 n0) v U'.heap L ∧ FrameEnd U o U' L ({ frames := 0, cells := 0, slots := 0, locals := 0 } : Room).cells ({ frames := 0, cells := 0, slots := 0, locals := 0 } : Room).slots) := by
  refine MetFree.of_bodySF (plainFor_of_name pn_6) hisR ?_
  intro p e s m args below meth c s₁ Bd hml0 hP hK
  obtain ⟨rfl, hZ, hh⟩ := hP
  have hx := Bd.exec
  have hby := Bd.bytes
  have hW := fun i d (h : tables_1[i]? = some d) => hw d (List.mem_of_getElem? h)
  have hlk : meth.locks = false := BodyLoose.notSynchronized Bd
  have hml : c.maxLocals = 1 := hml0
  have hown : s.vm.findClass "java/util/Optional" = some m.cls := findClass_of_methodNamed Bd.named
  have hnm := (name_of_methodNamed Bd.named Bd.method).1
  have X0 : Stand p l e ({ frames := 0, cells := 0, slots := 0, locals := 0 } : Room) s m #[] below meth c s₁ [] 0 0 := Stand.of_body Bd
  have e0 : s₁.heap = h0 := by rw [← hh, Bd.state]; rfl
  have N0 := Fr.nil n0
  show own_Go p e below s (Q_oem Z oe h0 n0) ({ frames := 0, cells := 0, slots := 0, locals := 0 } : Room).cells ({ frames := 0, cells := 0, slots := 0, locals := 0 } : Room).slots s₁ (entryFrame m #[] 1)
  refine own_cast (g' := (mkF m 0 #[u_] [])) (ef_rm_oem m ) ?_
  obtain ⟨T1, X1, e1, st1⟩ := getS2 X0 hx hZ hown (host := "") (Or.inl (hW 132 _ rfl)) Via.refl e0 (S_oe.ext O0.2) (g := (mkF m 0 #[u_] [])) rfl (hb hby d23_0)
  refine own_s T1 (mkF m 3 #[u_] [.ref oe]) st1 ?_
  refine own_s T1 (mkF m 4 #[rv oe] []) (fun t k => XS.astoreN X1.here hx rfl (hb hby d23_3) rfl rfl (l' := #[rv oe]) rfl k) ?_
  refine own_s T1 (mkF m 5 #[rv oe] [.ref oe]) (fun t k => XS.aloadN X1.here hx rfl (hb hby d23_4) rfl rfl k) ?_
  refine own_rA X1 hx hlk Bd.returns rfl (w := (.ref oe)) rfl (hb hby d23_5) ?_ (by decide) (by decide)
  rw [e1]
  exact ⟨rfl, N0, rfl⟩
def Q_oreR (Z : State) (oa : Addr) (xa : Addr) (h0 : Heap) (n0 : Nat) (v : Option Value) (h : Heap) (L : List Loc) : Prop := v = some (.ref xa) ∧ Fr n0 L ∧ h = h0
theorem ef_rm_oreR (m : MethodId) (x0 : Addr) : entryFrame m #[(.ref x0), .null] 2 = mkF m 0 #[.val (.ref x0), .val .null] [] := by first | (simp [entryFrame, mkF, argsToLocals, Value.category]; done) | rfl | (simp [entryFrame, mkF, argsToLocals, Value.category] <;> rfl)
theorem d22_0 : decode jdk_32_method_15_code 0 = .ok (.aload_n 0, 1) := by decide +kernel
theorem d22_1 : decode jdk_32_method_15_code 1 = .ok (.getfield 13, 3) := by decide +kernel
theorem d22_4 : decode jdk_32_method_15_code 4 = .ok (.ifnull 10, 3) := by decide +kernel
theorem d22_7 : decode jdk_32_method_15_code 7 = .ok (.aload_n 0, 1) := by decide +kernel
theorem d22_8 : decode jdk_32_method_15_code 8 = .ok (.getfield 13, 3) := by decide +kernel
theorem d22_11 : decode jdk_32_method_15_code 11 = .ok (.goto 4, 3) := by decide +kernel
theorem d22_15 : decode jdk_32_method_15_code 15 = .ok (.areturn, 1) := by decide +kernel
set_option maxRecDepth 65536 in
set_option maxHeartbeats 40000000 in
theorem rm_oreR (l : Launch) (Z : State) (a0 : Array Value) (hw : ∀ d ∈ tables_1, d.before a0 Z = true) (ws : List Jvm.Cond) (oa : Addr) (xa : Addr) (h0 : Heap) (n0 : Nat) (Z0 : n0 ≤ h0.size) (F_0 : Fld Z h0 oa "java/util/Optional" "value" "Ljava/lang/Object;" (.ref xa)) :
    MetFree l (⟨"java/util/Optional", "orElse", "(Ljava/lang/Object;)Ljava/lang/Object;"⟩ : MethodName) (head1 (Jvm.Cond.code (⟨"java/util/Optional", "orElse", "(Ljava/lang/Object;)Ljava/lang/Object;"⟩ : MethodName) jdk_32_method_15_code 2 (some (.object "java/lang/Object")) :: ws) ({ frames := 0, cells := 0, slots := 0, locals := 0 } : Room)) (fun a U => a = #[(.ref oa), .null] ∧ Z.Warmed39 U.vm ∧ U.heap = h0) (fun _ _ _ _ _ => True) (fun _ U o U' => ∃ v L, o = .returned v ∧ (Q_oreR Z oa xa h0 n0) v U'.heap L ∧ FrameEnd U o U' L ({ frames := 0, cells := 0, slots := 0, locals := 0 } : Room).cells ({ frames := 0, cells := 0, slots := 0, locals := 0 } : Room).slots) := by
  refine MetFree.of_bodySF (plainFor_of_name pn_6) hisR ?_
  intro p e s m args below meth c s₁ Bd hml0 hP hK
  obtain ⟨rfl, hZ, hh⟩ := hP
  have hx := Bd.exec
  have hby := Bd.bytes
  have hW := fun i d (h : tables_1[i]? = some d) => hw d (List.mem_of_getElem? h)
  have hlk : meth.locks = false := BodyLoose.notSynchronized Bd
  have hml : c.maxLocals = 2 := hml0
  have hown : s.vm.findClass "java/util/Optional" = some m.cls := findClass_of_methodNamed Bd.named
  have hnm := (name_of_methodNamed Bd.named Bd.method).1
  have X0 : Stand p l e ({ frames := 0, cells := 0, slots := 0, locals := 0 } : Room) s m #[(.ref oa), .null] below meth c s₁ [] 0 0 := Stand.of_body Bd
  have e0 : s₁.heap = h0 := by rw [← hh, Bd.state]; rfl
  have N0 := Fr.nil n0
  show own_Go p e below s (Q_oreR Z oa xa h0 n0) ({ frames := 0, cells := 0, slots := 0, locals := 0 } : Room).cells ({ frames := 0, cells := 0, slots := 0, locals := 0 } : Room).slots s₁ (entryFrame m #[(.ref oa), .null] 2)
  refine own_cast (g' := (mkF m 0 #[rv oa, .val .null] [])) (ef_rm_oreR m oa) ?_
  refine own_s s₁ (mkF m 1 #[rv oa, .val .null] [.ref oa]) (fun t k => XS.aloadN X0.here hx rfl (hb hby d22_0) rfl rfl k) ?_
  obtain ⟨T1, X1, e1, st1⟩ := getF X0 hx hZ hown (host := "") (Or.inl (hW 119 _ rfl)) Via.refl e0 F_0 (g := (mkF m 1 #[rv oa, .val .null] [.ref oa])) rfl rfl (hb hby d22_1)
  refine own_s T1 (mkF m 4 #[rv oa, .val .null] [.ref xa]) st1 ?_
  refine own_s T1 (mkF m 7 #[rv oa, .val .null] []) (fun t k => XS.ifnullNo X1.here hx rfl (hb hby d22_4) rfl k) ?_
  refine own_s T1 (mkF m 8 #[rv oa, .val .null] [.ref oa]) (fun t k => XS.aloadN X1.here hx rfl (hb hby d22_7) rfl rfl k) ?_
  obtain ⟨T2, X2, e2, st2⟩ := getF X1 hx hZ hown (host := "") (Or.inl (hW 119 _ rfl)) Via.refl e1 F_0 (g := (mkF m 8 #[rv oa, .val .null] [.ref oa])) rfl rfl (hb hby d22_8)
  refine own_s T2 (mkF m 11 #[rv oa, .val .null] [.ref xa]) st2 ?_
  refine own_s T2 (mkF m 15 #[rv oa, .val .null] [.ref xa]) (fun t k => XS.goto X2.here hx rfl (pc0 := 11) (pc' := 15) rfl (hb hby d22_11) (by decide) (by decide) k) ?_
  refine own_rA X2 hx hlk Bd.returns rfl (w := (.ref xa)) rfl (hb hby d22_15) ?_ (by decide) (by decide)
  rw [e2]
  exact ⟨rfl, N0, rfl⟩
def Q_oreN (Z : State) (oa : Addr) (h0 : Heap) (n0 : Nat) (v : Option Value) (h : Heap) (L : List Loc) : Prop := v = some .null ∧ Fr n0 L ∧ h = h0
theorem ef_rm_oreN (m : MethodId) (x0 : Addr) : entryFrame m #[(.ref x0), .null] 2 = mkF m 0 #[.val (.ref x0), .val .null] [] := by first | (simp [entryFrame, mkF, argsToLocals, Value.category]; done) | rfl | (simp [entryFrame, mkF, argsToLocals, Value.category] <;> rfl)
theorem d22_14 : decode jdk_32_method_15_code 14 = .ok (.aload_n 1, 1) := by decide +kernel
set_option maxRecDepth 65536 in
set_option maxHeartbeats 40000000 in
theorem rm_oreN (l : Launch) (Z : State) (a0 : Array Value) (hw : ∀ d ∈ tables_1, d.before a0 Z = true) (ws : List Jvm.Cond) (oa : Addr) (h0 : Heap) (n0 : Nat) (Z0 : n0 ≤ h0.size) (F_0 : Fld Z h0 oa "java/util/Optional" "value" "Ljava/lang/Object;" .null) :
    MetFree l (⟨"java/util/Optional", "orElse", "(Ljava/lang/Object;)Ljava/lang/Object;"⟩ : MethodName) (head1 (Jvm.Cond.code (⟨"java/util/Optional", "orElse", "(Ljava/lang/Object;)Ljava/lang/Object;"⟩ : MethodName) jdk_32_method_15_code 2 (some (.object "java/lang/Object")) :: ws) ({ frames := 0, cells := 0, slots := 0, locals := 0 } : Room)) (fun a U => a = #[(.ref oa), .null] ∧ Z.Warmed39 U.vm ∧ U.heap = h0) (fun _ _ _ _ _ => True) (fun _ U o U' => ∃ v L, o = .returned v ∧ (Q_oreN Z oa h0 n0) v U'.heap L ∧ FrameEnd U o U' L ({ frames := 0, cells := 0, slots := 0, locals := 0 } : Room).cells ({ frames := 0, cells := 0, slots := 0, locals := 0 } : Room).slots) := by
  refine MetFree.of_bodySF (plainFor_of_name pn_6) hisR ?_
  intro p e s m args below meth c s₁ Bd hml0 hP hK
  obtain ⟨rfl, hZ, hh⟩ := hP
  have hx := Bd.exec
  have hby := Bd.bytes
  have hW := fun i d (h : tables_1[i]? = some d) => hw d (List.mem_of_getElem? h)
  have hlk : meth.locks = false := BodyLoose.notSynchronized Bd
  have hml : c.maxLocals = 2 := hml0
  have hown : s.vm.findClass "java/util/Optional" = some m.cls := findClass_of_methodNamed Bd.named
  have hnm := (name_of_methodNamed Bd.named Bd.method).1
  have X0 : Stand p l e ({ frames := 0, cells := 0, slots := 0, locals := 0 } : Room) s m #[(.ref oa), .null] below meth c s₁ [] 0 0 := Stand.of_body Bd
  have e0 : s₁.heap = h0 := by rw [← hh, Bd.state]; rfl
  have N0 := Fr.nil n0
  show own_Go p e below s (Q_oreN Z oa h0 n0) ({ frames := 0, cells := 0, slots := 0, locals := 0 } : Room).cells ({ frames := 0, cells := 0, slots := 0, locals := 0 } : Room).slots s₁ (entryFrame m #[(.ref oa), .null] 2)
  refine own_cast (g' := (mkF m 0 #[rv oa, .val .null] [])) (ef_rm_oreN m oa) ?_
  refine own_s s₁ (mkF m 1 #[rv oa, .val .null] [.ref oa]) (fun t k => XS.aloadN X0.here hx rfl (hb hby d22_0) rfl rfl k) ?_
  obtain ⟨T1, X1, e1, st1⟩ := getF X0 hx hZ hown (host := "") (Or.inl (hW 119 _ rfl)) Via.refl e0 F_0 (g := (mkF m 1 #[rv oa, .val .null] [.ref oa])) rfl rfl (hb hby d22_1)
  refine own_s T1 (mkF m 4 #[rv oa, .val .null] [.null]) st1 ?_
  refine own_s T1 (mkF m 14 #[rv oa, .val .null] []) (fun t k => XS.ifnullYes X1.here hx rfl (pc0 := 4) (pc' := 14) rfl (hb hby d22_4) rfl (by decide) (by decide) k) ?_
  refine own_s T1 (mkF m 15 #[rv oa, .val .null] [.null]) (fun t k => XS.aloadN X1.here hx rfl (hb hby d22_14) rfl rfl k) ?_
  refine own_rA X1 hx hlk Bd.returns rfl (w := .null) rfl (hb hby d22_15) ?_ (by decide) (by decide)
  rw [e1]
  exact ⟨rfl, N0, rfl⟩
def Q_vls (Z : State) (va : Addr) (vk : ClassId) (ev : Addr) (ei : Addr) (h0 : Heap) (n0 : Nat) (v : Option Value) (h : Heap) (L : List Loc) : Prop := ∃ (nv : Addr), v = some (.ref nv) ∧ Fr n0 L ∧ Keep h0 h [] ∧ h0.size ≤ nv ∧ Arv Z h nv vk (.object "com/example/umpire/umpire/xsts/Validity") (2 : Int32) [(.ref ev), (.ref ei)] .null
theorem ef_rm_vls (m : MethodId)  : entryFrame m #[] 0 = mkF m 0 #[] [] := by first | (simp [entryFrame, mkF, argsToLocals, Value.category]; done) | rfl | (simp [entryFrame, mkF, argsToLocals, Value.category] <;> rfl)
theorem pn_7 : plainName "com/example/umpire/umpire/xsts/Validity" = true := by first | (simp [plainName, overriddenIn]; done) | decide +kernel
theorem d18_0 : decode prog_52_method_1_code 0 = .ok (.getstatic 10, 3) := by decide +kernel
theorem d18_3 : decode prog_52_method_1_code 3 = .ok (.invokevirtual 14, 3) := by decide +kernel
theorem d18_6 : decode prog_52_method_1_code 6 = .ok (.checkcast 15, 3) := by decide +kernel
theorem d18_9 : decode prog_52_method_1_code 9 = .ok (.areturn, 1) := by decide +kernel
set_option maxRecDepth 65536 in
set_option maxHeartbeats 40000000 in
theorem rm_vls (l : Launch) (Z : State) (a0 : Array Value) (hw : ∀ d ∈ tables_1, d.before a0 Z = true) (ws : List Jvm.Cond) (va : Addr) (vk : ClassId) (ev : Addr) (ei : Addr) (h0 : Heap) (n0 : Nat) (Z0 : n0 ≤ h0.size) (O0 : Old Z n0 h0) (S_vs : Sta Z Z.heap "com/example/umpire/umpire/xsts/Validity" "$VALUES" "[Lcom/example/umpire/umpire/xsts/Validity;" (.ref va)) (E_va : Exa Z Z.heap va "[Lcom/example/umpire/umpire/xsts/Validity;") (V_va : Arv Z Z.heap va vk (.object "com/example/umpire/umpire/xsts/Validity") (2 : Int32) [(.ref ev), (.ref ei)] .null) :
    MetFree l (⟨"com/example/umpire/umpire/xsts/Validity", "values", "()[Lcom/example/umpire/umpire/xsts/Validity;"⟩ : MethodName) (head1 (Jvm.Cond.code (⟨"com/example/umpire/umpire/xsts/Validity", "values", "()[Lcom/example/umpire/umpire/xsts/Validity;"⟩ : MethodName) prog_52_method_1_code 0 (some (.array (.object "com/example/umpire/umpire/xsts/Validity"))) :: ws) ({ frames := 1, cells := 1, slots := 2, locals := 14 } : Room)) (fun a U => a = #[] ∧ Z.Warmed39 U.vm ∧ U.heap = h0) (fun _ _ _ _ _ => True) (fun _ U o U' => ∃ v L, o = .returned v ∧ (Q_vls Z va vk ev ei h0 n0) v U'.heap L ∧ FrameEnd U o U' L ({ frames := 1, cells := 1, slots := 2, locals := 14 } : Room).cells ({ frames := 1, cells := 1, slots := 2, locals := 14 } : Room).slots) := by
  refine MetFree.of_bodySF (plainFor_of_name pn_7) hisR ?_
  intro p e s m args below meth c s₁ Bd hml0 hP hK
  obtain ⟨rfl, hZ, hh⟩ := hP
  have hx := Bd.exec
  have hby := Bd.bytes
  have hW := fun i d (h : tables_1[i]? = some d) => hw d (List.mem_of_getElem? h)
  have hlk : meth.locks = false := BodyLoose.notSynchronized Bd
  have hml : c.maxLocals = 0 := hml0
  have hown : s.vm.findClass "com/example/umpire/umpire/xsts/Validity" = some m.cls := findClass_of_methodNamed Bd.named
  have hnm := (name_of_methodNamed Bd.named Bd.method).1
  have X0 : Stand p l e ({ frames := 1, cells := 1, slots := 2, locals := 14 } : Room) s m #[] below meth c s₁ [] 0 0 := Stand.of_body Bd
  have e0 : s₁.heap = h0 := by rw [← hh, Bd.state]; rfl
  have N0 := Fr.nil n0
  show own_Go p e below s (Q_vls Z va vk ev ei h0 n0) ({ frames := 1, cells := 1, slots := 2, locals := 14 } : Room).cells ({ frames := 1, cells := 1, slots := 2, locals := 14 } : Room).slots s₁ (entryFrame m #[] 0)
  refine own_cast (g' := (mkF m 0 #[] [])) (ef_rm_vls m ) ?_
  have K0 : Keep h0 h0 [] := Keep.refl _ _
  obtain ⟨T1, X1, e1, st1⟩ := getS2 X0 hx hZ hown (host := "") (Or.inl (hW 88 _ rfl)) Via.refl e0 (S_vs.ext O0.2) (g := (mkF m 0 #[] [])) rfl (hb hby d18_0)
  refine own_s T1 (mkF m 3 #[] [.ref va]) st1 ?_
  obtain ⟨T2, h2, X2, e2, E2, A2, B2, st2⟩ := cloneH X1 hx hZ hown (hW 90 _ rfl) (hW 91 _ rfl) (hW 95 _ rfl) (hW 93 _ rfl) (hW 94 _ rfl) (hW 96 _ rfl) e1 (V_va.ext O0.2).arh (E_va.ext O0.2) (g := (mkF m 3 #[] [.ref va])) rfl (by rw [hml]; rfl) rfl (hb hby d18_3) (by decide) (W := 0) (by show 2 * 0 + _ ≤ _; exact Nat.le_of_eq rfl) (by decide) (cap := 2) (by decide) (by decide : 0 + 1 ≤ _) (by decide : 0 + 2 ≤ _)
  obtain ⟨ad2, g_ad2⟩ : ∃ z, z = h0.size := ⟨_, rfl⟩
  rw [← g_ad2] at A2 B2 st2
  have o2 : n0 ≤ ad2 := (Nat.le_trans Z0 (Nat.le_of_eq g_ad2.symm))
  have Z2 : n0 ≤ h2.size := (Nat.le_trans Z0 E2.1)
  have O2 : Old Z n0 h2 := O0.ext E2
  have f2 : h0.size ≤ ad2 := by rw [g_ad2]; exact K0.1
  have K3 : Keep h0 h2 [] := K0.ext E2
  have V2 : Arv Z h2 ad2 vk (.object "com/example/umpire/umpire/xsts/Validity") (2 : Int32) [(.ref ev), (.ref ei)] .null := A2
  refine own_s T2 (mkF m 6 #[] [.ref ad2]) st2 ?_
  obtain ⟨T4, X4, e4, st4⟩ := castY X2 hx hZ hown (hW 99 _ rfl) e2 (Ins.self B2) (g := (mkF m 6 #[] [.ref ad2])) rfl rfl (hb hby d18_6)
  refine own_s T4 (mkF m 9 #[] [.ref ad2]) st4 ?_
  refine own_rA X4 hx hlk Bd.returns rfl (w := (.ref ad2)) rfl (hb hby d18_9) ?_ (by decide) (by decide)
  rw [e4]
  exact ⟨ad2, rfl, N0, K3, f2, V2⟩
def Q_ofV (Z : State) (wa : Addr) (wb : Addr) (wk : ClassId) (zn : Int32) (wl : List Value) (va : Addr) (vk : ClassId) (ev : Addr) (ei : Addr) (sv : Addr) (bv : Addr) (kv : ClassId) (si : Addr) (bi : Addr) (ki : ClassId) (oe : Addr) (ic : Int32) (h0 : Heap) (n0 : Nat) (v : Option Value) (h : Heap) (L : List Loc) : Prop := ∃ (ob : Addr), v = some (.ref ob) ∧ Fr n0 L ∧ Keep h0 h [] ∧ h0.size ≤ ob ∧ Exa Z h ob "java/util/Optional" ∧ Fld Z h ob "java/util/Optional" "value" "Ljava/lang/Object;" (.ref ev)
theorem ef_rm_ofV (m : MethodId) (x0 : Addr) : entryFrame m #[(.ref x0)] 5 = mkF m 0 #[.val (.ref x0), .unset, .unset, .unset, .unset] [] := by first | (simp [entryFrame, mkF, argsToLocals, Value.category]; done) | rfl | (simp [entryFrame, mkF, argsToLocals, Value.category] <;> rfl)
theorem pd_14 : parseMethodDescriptor "()[Lcom/example/umpire/umpire/xsts/Validity;" = some ⟨[], some (.array (.object "com/example/umpire/umpire/xsts/Validity"))⟩ := by decide +kernel
theorem d17_0 : decode prog_52_method_6_code 0 = .ok (.invokestatic 33, 3) := by decide +kernel
theorem d17_3 : decode prog_52_method_6_code 3 = .ok (.astore_n 1, 1) := by decide +kernel
theorem d17_4 : decode prog_52_method_6_code 4 = .ok (.aload_n 1, 1) := by decide +kernel
theorem d17_5 : decode prog_52_method_6_code 5 = .ok (.arraylength, 1) := by decide +kernel
theorem d17_6 : decode prog_52_method_6_code 6 = .ok (.istore_n 2, 1) := by decide +kernel
theorem d17_7 : decode prog_52_method_6_code 7 = .ok (.iconst 0, 1) := by decide +kernel
theorem d17_8 : decode prog_52_method_6_code 8 = .ok (.istore_n 3, 1) := by decide +kernel
theorem d17_9 : decode prog_52_method_6_code 9 = .ok (.iload_n 3, 1) := by decide +kernel
theorem d17_10 : decode prog_52_method_6_code 10 = .ok (.iload_n 2, 1) := by decide +kernel
theorem d17_11 : decode prog_52_method_6_code 11 = .ok (.if_icmp .ge 32, 3) := by decide +kernel
theorem d17_14 : decode prog_52_method_6_code 14 = .ok (.aload_n 1, 1) := by decide +kernel
theorem d17_15 : decode prog_52_method_6_code 15 = .ok (.iload_n 3, 1) := by decide +kernel
theorem d17_16 : decode prog_52_method_6_code 16 = .ok (.aaload, 1) := by decide +kernel
theorem d17_17 : decode prog_52_method_6_code 17 = .ok (.astore 4, 2) := by decide +kernel
theorem d17_19 : decode prog_52_method_6_code 19 = .ok (.aload 4, 2) := by decide +kernel
theorem d17_21 : decode prog_52_method_6_code 21 = .ok (.getfield 29, 3) := by decide +kernel
theorem d17_24 : decode prog_52_method_6_code 24 = .ok (.aload_n 0, 1) := by decide +kernel
theorem pd_15 : parseMethodDescriptor "(Ljava/lang/Object;)Z" = some ⟨[.object "java/lang/Object"], some (.boolean)⟩ := by decide +kernel
theorem d17_25 : decode prog_52_method_6_code 25 = .ok (.invokevirtual 65, 3) := by decide +kernel
theorem d17_28 : decode prog_52_method_6_code 28 = .ok (.ifCond .eq 9, 3) := by decide +kernel
theorem d17_31 : decode prog_52_method_6_code 31 = .ok (.aload 4, 2) := by decide +kernel
theorem pd_16 : parseMethodDescriptor "(Ljava/lang/Object;)Ljava/util/Optional;" = some ⟨[.object "java/lang/Object"], some (.object "java/util/Optional")⟩ := by decide +kernel
theorem d17_33 : decode prog_52_method_6_code 33 = .ok (.invokestatic 71, 3) := by decide +kernel
theorem d17_36 : decode prog_52_method_6_code 36 = .ok (.areturn, 1) := by decide +kernel
set_option maxRecDepth 65536 in
set_option maxHeartbeats 40000000 in
theorem rm_ofV (l : Launch) (Z : State) (a0 : Array Value) (hw : ∀ d ∈ tables_1, d.before a0 Z = true) (ws : List Jvm.Cond) (wa : Addr) (wb : Addr) (wk : ClassId) (zn : Int32) (wl : List Value) (va : Addr) (vk : ClassId) (ev : Addr) (ei : Addr) (sv : Addr) (bv : Addr) (kv : ClassId) (si : Addr) (bi : Addr) (ki : ClassId) (oe : Addr) (ic : Int32) (h0 : Heap) (n0 : Nat) (Z0 : n0 ≤ h0.size) (F_0 : Exa Z h0 wa "java/lang/String") (F_1 : Fld Z h0 wa "java/lang/String" "coder" "B" (.int (0 : Int32))) (F_2 : Fld Z h0 wa "java/lang/String" "value" "[B" (.ref wb)) (F_3 : Arv Z h0 wb wk .byte zn wl (.int (0 : Int32))) (n_sv_wa : sv ≠ wa) (n_si_wa : si ≠ wa) (O0 : Old Z n0 h0) (hform : own_form zn wl) (hv : ¬ own_beq wl own_LV = 0) (S_c : Sta Z Z.heap "java/lang/String" "COMPACT_STRINGS" "Z" (.int ic)) (hic : ¬ ic = 0) (S_oe : Sta Z Z.heap "java/util/Optional" "EMPTY" "Ljava/util/Optional;" (.ref oe)) (S_vs : Sta Z Z.heap "com/example/umpire/umpire/xsts/Validity" "$VALUES" "[Lcom/example/umpire/umpire/xsts/Validity;" (.ref va)) (E_va : Exa Z Z.heap va "[Lcom/example/umpire/umpire/xsts/Validity;") (V_va : Arv Z Z.heap va vk (.object "com/example/umpire/umpire/xsts/Validity") (2 : Int32) [(.ref ev), (.ref ei)] .null) (E_ev : Exa Z Z.heap ev "com/example/umpire/umpire/xsts/Validity") (F_ev : Fld Z Z.heap ev "com/example/umpire/umpire/xsts/Validity" "word" "Ljava/lang/String;" (.ref sv)) (E_sv : Exa Z Z.heap sv "java/lang/String") (C_sv : Fld Z Z.heap sv "java/lang/String" "coder" "B" (.int (0 : Int32))) (F_sv : Fld Z Z.heap sv "java/lang/String" "value" "[B" (.ref bv)) (V_bv : Arv Z Z.heap bv kv .byte (5 : Int32) [(.int (118 : Int32)), (.int (97 : Int32)), (.int (108 : Int32)), (.int (105 : Int32)), (.int (100 : Int32))] (.int (0 : Int32))) (E_ei : Exa Z Z.heap ei "com/example/umpire/umpire/xsts/Validity") (F_ei : Fld Z Z.heap ei "com/example/umpire/umpire/xsts/Validity" "word" "Ljava/lang/String;" (.ref si)) (E_si : Exa Z Z.heap si "java/lang/String") (C_si : Fld Z Z.heap si "java/lang/String" "coder" "B" (.int (0 : Int32))) (F_si : Fld Z Z.heap si "java/lang/String" "value" "[B" (.ref bi)) (V_bi : Arv Z Z.heap bi ki .byte (7 : Int32) [(.int (105 : Int32)), (.int (110 : Int32)), (.int (118 : Int32)), (.int (97 : Int32)), (.int (108 : Int32)), (.int (105 : Int32)), (.int (100 : Int32))] (.int (0 : Int32))) (E_oe : Exa Z Z.heap oe "java/util/Optional") (F_oe : Fld Z Z.heap oe "java/util/Optional" "value" "Ljava/lang/Object;" .null) :
    MetFree l (⟨"com/example/umpire/umpire/xsts/Validity", "of", "(Ljava/lang/String;)Ljava/util/Optional;"⟩ : MethodName) (head1 (Jvm.Cond.code (⟨"com/example/umpire/umpire/xsts/Validity", "of", "(Ljava/lang/String;)Ljava/util/Optional;"⟩ : MethodName) prog_52_method_6_code 5 (some (.object "java/util/Optional")) :: ws) ({ frames := 3, cells := 2, slots := 3, locals := 38 } : Room)) (fun a U => a = #[(.ref wa)] ∧ Z.Warmed39 U.vm ∧ U.heap = h0) (fun _ _ _ _ _ => True) (fun _ U o U' => ∃ v L, o = .returned v ∧ (Q_ofV Z wa wb wk zn wl va vk ev ei sv bv kv si bi ki oe ic h0 n0) v U'.heap L ∧ FrameEnd U o U' L ({ frames := 3, cells := 2, slots := 3, locals := 38 } : Room).cells ({ frames := 3, cells := 2, slots := 3, locals := 38 } : Room).slots) := by
  refine MetFree.of_bodySF (plainFor_of_name pn_7) hisR ?_
  intro p e s m args below meth c s₁ Bd hml0 hP hK
  obtain ⟨rfl, hZ, hh⟩ := hP
  have hx := Bd.exec
  have hby := Bd.bytes
  have hW := fun i d (h : tables_1[i]? = some d) => hw d (List.mem_of_getElem? h)
  have hlk : meth.locks = false := BodyLoose.notSynchronized Bd
  have hml : c.maxLocals = 5 := hml0
  have hown : s.vm.findClass "com/example/umpire/umpire/xsts/Validity" = some m.cls := findClass_of_methodNamed Bd.named
  have hnm := (name_of_methodNamed Bd.named Bd.method).1
  have X0 : Stand p l e ({ frames := 3, cells := 2, slots := 3, locals := 38 } : Room) s m #[(.ref wa)] below meth c s₁ [] 0 0 := Stand.of_body Bd
  have e0 : s₁.heap = h0 := by rw [← hh, Bd.state]; rfl
  have N0 := Fr.nil n0
  show own_Go p e below s (Q_ofV Z wa wb wk zn wl va vk ev ei sv bv kv si bi ki oe ic h0 n0) ({ frames := 3, cells := 2, slots := 3, locals := 38 } : Room).cells ({ frames := 3, cells := 2, slots := 3, locals := 38 } : Room).slots s₁ (entryFrame m #[(.ref wa)] 5)
  refine own_cast (g' := (mkF m 0 #[rv wa, u_, u_, u_, u_] [])) (ef_rm_ofV m wa) ?_
  have K0 : Keep h0 h0 [] := Keep.refl _ _
  obtain ⟨_, _, ⟨T4, L4, k4, n4⟩, -, X4, ⟨Lc4, hQ4, lq4, yq4, zq4⟩, st4⟩ := Jvm.LawKit.callS X0 hx (y := (⟨"com/example/umpire/umpire/xsts/Validity", "values", "()[Lcom/example/umpire/umpire/xsts/Validity;"⟩ : MethodName)) hown (mvT hZ (hW 85 _ rfl)) (mvT hZ (hW 86 _ rfl)) (mvT hZ (hW 80 _ rfl)) (mvT hZ (hW 87 _ rfl)) (by decide) (backOf (W := 0) (rm_vls l Z a0 hw [] va vk ev ei h0 n0 Z0 O0 S_vs E_va V_va) hZ (hW 87 _ rfl) (hW 80 _ rfl) (by decide) (by decide)) (g := (mkF m 0 #[rv wa, u_, u_, u_, u_] [])) rfl (by rw [hml]; rfl) (argsL := []) (rest := []) (lenOf pd_14 rfl) rfl (by show 2 * 0 + _ ≤ _; exact Nat.le_of_eq rfl) (hb hby d17_0) (fun _ _ => ⟨rfl, e0, (by decide : 0 + 1 ≤ _), (by decide : 0 + 2 ≤ _)⟩)
  dsimp only [Pt.U, Pt.locs, Pt.cells, Pt.slots] at X4 lq4 yq4 zq4 st4 hQ4
  subst lq4 yq4 zq4
  obtain ⟨nv_1, rfl, Nq4, K2, fz_nv_1, g3⟩ := hQ4
  have N4 := Fr.app N0 Nq4
  have oz_nv_1 : n0 ≤ nv_1 := Nat.le_trans Z0 fz_nv_1
  have nz_wa_nv_1 : wa ≠ nv_1 := Nat.ne_of_lt (Nat.lt_of_lt_of_le F_0.lt fz_nv_1)
  have nz_wb_nv_1 : wb ≠ nv_1 := Nat.ne_of_lt (Nat.lt_of_lt_of_le F_3.lt fz_nv_1)
  have fr_nv_1 : h0.size ≤ nv_1 := Nat.le_trans K0.1 fz_nv_1
  have g5 := F_0.keep K2
  have g6 := F_1.keep K2 nin0
  have g7 := F_2.keep K2 nin0
  have g8 := F_3.keep K2 nin0
  have Z2 : n0 ≤ T4.heap.size := (Nat.le_trans Z0 K2.1)
  have O2 : Old Z n0 T4.heap := O0.keep K2 (all0 (P := fun x => n0 ≤ x))
  have K9 : Keep h0 T4.heap [] := K0.trans K2 (all0 (P := fun x => x ∈ [] ∨ h0.size ≤ x))
  refine own_s T4 (mkF m 3 #[rv wa, u_, u_, u_, u_] [.ref nv_1]) st4 ?_
  refine own_s T4 (mkF m 4 #[rv wa, rv nv_1, u_, u_, u_] []) (fun t k => XS.astoreN X4.here hx rfl (hb hby d17_3) rfl rfl (l' := #[rv wa, rv nv_1, u_, u_, u_]) rfl k) ?_
  refine own_s T4 (mkF m 5 #[rv wa, rv nv_1, u_, u_, u_] [.ref nv_1]) (fun t k => XS.aloadN X4.here hx rfl (hb hby d17_4) rfl rfl k) ?_
  obtain ⟨cl10, Ar10, qa10, S10, M10, H10, U10⟩ := id g3
  have ln10 := len_of S10 M10
  refine own_s T4 (mkF m 6 #[rv wa, rv nv_1, u_, u_, u_] [.int 2]) (fun t k => X4.arraylength hx (cell := cl10) Ar10.1 (State.isArrayOf_alike hZ.alike Ar10.2.1) (g := (mkF m 5 #[rv wa, rv nv_1, u_, u_, u_] [.ref nv_1])) rfl rfl (hb hby d17_5) t (by rw [ln10]; exact k)) ?_
  refine own_s T4 (mkF m 7 #[rv wa, rv nv_1, iv 2, u_, u_] []) (fun t k => XS.istoreN X4.here hx rfl (hb hby d17_6) rfl (l' := #[rv wa, rv nv_1, iv 2, u_, u_]) rfl k) ?_
  refine own_s T4 (mkF m 8 #[rv wa, rv nv_1, iv 2, u_, u_] [.int 0]) (fun t k => XS.iconst X4.here hx rfl (hb hby d17_7) k) ?_
  refine own_s T4 (mkF m 9 #[rv wa, rv nv_1, iv 2, iv 0, u_] []) (fun t k => XS.istoreN X4.here hx rfl (hb hby d17_8) rfl (l' := #[rv wa, rv nv_1, iv 2, iv 0, u_]) rfl k) ?_
  refine own_s T4 (mkF m 10 #[rv wa, rv nv_1, iv 2, iv 0, u_] [.int 0]) (fun t k => XS.iloadN X4.here hx rfl (hb hby d17_9) rfl k) ?_
  refine own_s T4 (mkF m 11 #[rv wa, rv nv_1, iv 2, iv 0, u_] [.int 2, .int 0]) (fun t k => XS.iloadN X4.here hx rfl (hb hby d17_10) rfl k) ?_
  refine own_s T4 (mkF m 14 #[rv wa, rv nv_1, iv 2, iv 0, u_] []) (fun t k => XS.icmpNo X4.here hx rfl (hb hby d17_11) rfl (tlt (by decide : ((0 : Int32) < (2 : Int32)))).2.1 k) ?_
  refine own_s T4 (mkF m 15 #[rv wa, rv nv_1, iv 2, iv 0, u_] [.ref nv_1]) (fun t k => XS.aloadN X4.here hx rfl (hb hby d17_14) rfl rfl k) ?_
  refine own_s T4 (mkF m 16 #[rv wa, rv nv_1, iv 2, iv 0, u_] [.int 0, .ref nv_1]) (fun t k => XS.iloadN X4.here hx rfl (hb hby d17_15) rfl k) ?_
  obtain ⟨cl11, Ar11, qa11, S11, M11, H11, U11⟩ := id g3
  have hi11 := inb_of S11 (j := (0 : Int32)) ⟨by decide, by decide⟩
  have hat11 := H11.at hi11 (v := (.ref ev)) rfl
  refine own_s T4 (mkF m 17 #[rv wa, rv nv_1, iv 2, iv 0, u_] [.ref ev]) (fun t k => X4.aaload hx (j := (0 : Int32)) (v := (.ref ev)) Ar11.1 (State.isArrayOf_alike hZ.alike Ar11.2.1) rfl Ar11.2.2 hi11 hat11 (g := (mkF m 16 #[rv wa, rv nv_1, iv 2, iv 0, u_] [.int 0, .ref nv_1])) rfl rfl (hb hby d17_16) t k) ?_
  refine own_s T4 (mkF m 19 #[rv wa, rv nv_1, iv 2, iv 0, rv ev] []) (fun t k => XS.astore X4.here hx rfl (hb hby d17_17) rfl rfl (l' := #[rv wa, rv nv_1, iv 2, iv 0, rv ev]) rfl k) ?_
  refine own_s T4 (mkF m 21 #[rv wa, rv nv_1, iv 2, iv 0, rv ev] [.ref ev]) (fun t k => XS.aload X4.here hx rfl (hb hby d17_19) rfl rfl k) ?_
  obtain ⟨T12, X12, e12, st12⟩ := getF X4 hx hZ hown (host := "") (Or.inl (hW 101 _ rfl)) Via.refl rfl (F_ev.ext O2.2) (g := (mkF m 21 #[rv wa, rv nv_1, iv 2, iv 0, rv ev] [.ref ev])) rfl rfl (hb hby d17_21)
  refine own_s T12 (mkF m 24 #[rv wa, rv nv_1, iv 2, iv 0, rv ev] [.ref sv]) st12 ?_
  refine own_s T12 (mkF m 25 #[rv wa, rv nv_1, iv 2, iv 0, rv ev] [.ref wa, .ref sv]) (fun t k => XS.aloadN X12.here hx rfl (hb hby d17_24) rfl rfl k) ?_
  obtain ⟨cq16, kq16, q16a, q16b, q16c⟩ := isOf hZ e12 (E_sv.ext O2.2)
  obtain ⟨_, _, ⟨T15, L15, k15, n15⟩, -, X15, ⟨Lc15, hQ15, lq15, yq15, zq15⟩, st15⟩ := X12.virtualBack hx (y := (⟨"java/lang/String", "equals", "(Ljava/lang/Object;)Z"⟩ : MethodName)) (z := (⟨"java/lang/String", "equals", "(Ljava/lang/Object;)Z"⟩ : MethodName)) hown (mvT hZ (hW 103 _ rfl)) (mvT hZ (hW 71 _ rfl)) (notFace_of_selects (args := #[]) (mvT hZ (hW 73 _ rfl))) (mvT hZ (hW 73 _ rfl)) (mvT hZ (hW 72 _ rfl)) (by decide) (backOf (W := 0) (rm_seqV0 l Z a0 hw [] wa wb wk zn wl sv bv kv ic T4.heap n0 Z2 g5 g6 g7 g8 (E_sv.ext O2.2) (C_sv.ext O2.2) (F_sv.ext O2.2) (V_bv.ext O2.2) n_sv_wa O2 hform S_c hic) hZ (hW 74 _ rfl) (hW 1 _ rfl) (by decide) (by decide)) q16a q16c (g := (mkF m 25 #[rv wa, rv nv_1, iv 2, iv 0, rv ev] [.ref wa, .ref sv])) rfl (by rw [hml]; rfl) (Steps.refl _) (argsL := [(.ref wa)]) (rest := []) (lenOf pd_15 rfl) rfl (by show 2 * 0 + _ ≤ _; exact Nat.le_of_eq rfl) (hb hby d17_25) (fun _ _ => ⟨rfl, e12, (by decide : 1 + 0 ≤ _), (by decide : 2 + 0 ≤ _)⟩)
  dsimp only [Pt.U, Pt.locs, Pt.cells, Pt.slots] at X15 lq15 yq15 zq15 st15 hQ15
  subst lq15 yq15 zq15
  obtain ⟨rfl, Nq15, eq14⟩ := hQ15
  have N15 := Fr.app N4 Nq15
  refine own_tr (T' := T15) (g' := (mkF m 28 #[rv wa, rv nv_1, iv 2, iv 0, rv ev] [.int (own_beq wl own_LV)])) st15 ?_
  refine own_s T15 (mkF m 31 #[rv wa, rv nv_1, iv 2, iv 0, rv ev] []) (fun t k => XS.ifNo X15.here hx rfl (hb hby d17_28) rfl ((if0 _ _).trans (feq hv).1) k) ?_
  refine own_s T15 (mkF m 33 #[rv wa, rv nv_1, iv 2, iv 0, rv ev] [.ref ev]) (fun t k => XS.aload X15.here hx rfl (hb hby d17_31) rfl rfl k) ?_
  obtain ⟨_, _, ⟨T21, L21, k21, n21⟩, -, X21, ⟨Lc21, hQ21, lq21, yq21, zq21⟩, st21⟩ := Jvm.LawKit.callS X15 hx (y := (⟨"java/util/Optional", "of", "(Ljava/lang/Object;)Ljava/util/Optional;"⟩ : MethodName)) hown (mvT hZ (hW 104 _ rfl)) (mvT hZ (hW 105 _ rfl)) (mvT hZ (hW 106 _ rfl)) (mvT hZ (hW 107 _ rfl)) (by decide) (backOf (W := 0) (rm_oof l Z a0 hw [] ev T4.heap n0 Z2 ) hZ (hW 107 _ rfl) (hW 106 _ rfl) (by decide) (by decide)) (g := (mkF m 33 #[rv wa, rv nv_1, iv 2, iv 0, rv ev] [.ref ev])) rfl (by rw [hml]; rfl) (argsL := [(.ref ev)]) (rest := []) (lenOf pd_16 rfl) rfl (by show 2 * 0 + _ ≤ _; exact Nat.le_of_eq rfl) (hb hby d17_33) (fun _ _ => ⟨rfl, eq14, (by decide : 1 + 1 ≤ _), (by decide : 2 + 1 ≤ _)⟩)
  dsimp only [Pt.U, Pt.locs, Pt.cells, Pt.slots] at X21 lq21 yq21 zq21 st21 hQ21
  subst lq21 yq21 zq21
  obtain ⟨ob_17, rfl, Nq21, K18, fz_ob_17, g19, g20⟩ := hQ21
  have N21 := Fr.app N15 Nq21
  have oz_ob_17 : n0 ≤ ob_17 := Nat.le_trans Z2 fz_ob_17
  have nz_wa_ob_17 : wa ≠ ob_17 := Nat.ne_of_lt (Nat.lt_of_lt_of_le g5.lt fz_ob_17)
  have nz_wb_ob_17 : wb ≠ ob_17 := Nat.ne_of_lt (Nat.lt_of_lt_of_le g8.lt fz_ob_17)
  have nz_nv_1_ob_17 : nv_1 ≠ ob_17 := Nat.ne_of_lt (Nat.lt_of_lt_of_le g3.lt fz_ob_17)
  have fr_ob_17 : h0.size ≤ ob_17 := Nat.le_trans K9.1 fz_ob_17
  have g22 := g5.keep K18
  have g23 := g6.keep K18 nin0
  have g24 := g7.keep K18 nin0
  have g25 := g8.keep K18 nin0
  have g26 := g3.keep K18 nin0
  have Z18 : n0 ≤ T21.heap.size := (Nat.le_trans Z2 K18.1)
  have O18 : Old Z n0 T21.heap := O2.keep K18 (all0 (P := fun x => n0 ≤ x))
  have K27 : Keep h0 T21.heap [] := K9.trans K18 (all0 (P := fun x => x ∈ [] ∨ h0.size ≤ x))
  refine own_s T21 (mkF m 36 #[rv wa, rv nv_1, iv 2, iv 0, rv ev] [.ref ob_17]) st21 ?_
  refine own_rA X21 hx hlk Bd.returns rfl (w := (.ref ob_17)) rfl (hb hby d17_36) ?_ (by decide) (by decide)
  exact ⟨ob_17, rfl, N21, K27, fr_ob_17, g19, g20⟩
def Q_ofI (Z : State) (wa : Addr) (wb : Addr) (wk : ClassId) (zn : Int32) (wl : List Value) (va : Addr) (vk : ClassId) (ev : Addr) (ei : Addr) (sv : Addr) (bv : Addr) (kv : ClassId) (si : Addr) (bi : Addr) (ki : ClassId) (oe : Addr) (ic : Int32) (h0 : Heap) (n0 : Nat) (v : Option Value) (h : Heap) (L : List Loc) : Prop := ∃ (ob : Addr), v = some (.ref ob) ∧ Fr n0 L ∧ Keep h0 h [] ∧ h0.size ≤ ob ∧ Exa Z h ob "java/util/Optional" ∧ Fld Z h ob "java/util/Optional" "value" "Ljava/lang/Object;" (.ref ei)
theorem ef_rm_ofI (m : MethodId) (x0 : Addr) : entryFrame m #[(.ref x0)] 5 = mkF m 0 #[.val (.ref x0), .unset, .unset, .unset, .unset] [] := by first | (simp [entryFrame, mkF, argsToLocals, Value.category]; done) | rfl | (simp [entryFrame, mkF, argsToLocals, Value.category] <;> rfl)
theorem d17_37 : decode prog_52_method_6_code 37 = .ok (.iinc 3 1, 3) := by decide +kernel
theorem d17_40 : decode prog_52_method_6_code 40 = .ok (.goto (-31), 3) := by decide +kernel
set_option maxRecDepth 65536 in
set_option maxHeartbeats 40000000 in
theorem rm_ofI (l : Launch) (Z : State) (a0 : Array Value) (hw : ∀ d ∈ tables_1, d.before a0 Z = true) (ws : List Jvm.Cond) (wa : Addr) (wb : Addr) (wk : ClassId) (zn : Int32) (wl : List Value) (va : Addr) (vk : ClassId) (ev : Addr) (ei : Addr) (sv : Addr) (bv : Addr) (kv : ClassId) (si : Addr) (bi : Addr) (ki : ClassId) (oe : Addr) (ic : Int32) (h0 : Heap) (n0 : Nat) (Z0 : n0 ≤ h0.size) (F_0 : Exa Z h0 wa "java/lang/String") (F_1 : Fld Z h0 wa "java/lang/String" "coder" "B" (.int (0 : Int32))) (F_2 : Fld Z h0 wa "java/lang/String" "value" "[B" (.ref wb)) (F_3 : Arv Z h0 wb wk .byte zn wl (.int (0 : Int32))) (n_sv_wa : sv ≠ wa) (n_si_wa : si ≠ wa) (O0 : Old Z n0 h0) (hform : own_form zn wl) (hv : own_beq wl own_LV = 0) (hi : ¬ own_beq wl own_LI = 0) (S_c : Sta Z Z.heap "java/lang/String" "COMPACT_STRINGS" "Z" (.int ic)) (hic : ¬ ic = 0) (S_oe : Sta Z Z.heap "java/util/Optional" "EMPTY" "Ljava/util/Optional;" (.ref oe)) (S_vs : Sta Z Z.heap "com/example/umpire/umpire/xsts/Validity" "$VALUES" "[Lcom/example/umpire/umpire/xsts/Validity;" (.ref va)) (E_va : Exa Z Z.heap va "[Lcom/example/umpire/umpire/xsts/Validity;") (V_va : Arv Z Z.heap va vk (.object "com/example/umpire/umpire/xsts/Validity") (2 : Int32) [(.ref ev), (.ref ei)] .null) (E_ev : Exa Z Z.heap ev "com/example/umpire/umpire/xsts/Validity") (F_ev : Fld Z Z.heap ev "com/example/umpire/umpire/xsts/Validity" "word" "Ljava/lang/String;" (.ref sv)) (E_sv : Exa Z Z.heap sv "java/lang/String") (C_sv : Fld Z Z.heap sv "java/lang/String" "coder" "B" (.int (0 : Int32))) (F_sv : Fld Z Z.heap sv "java/lang/String" "value" "[B" (.ref bv)) (V_bv : Arv Z Z.heap bv kv .byte (5 : Int32) [(.int (118 : Int32)), (.int (97 : Int32)), (.int (108 : Int32)), (.int (105 : Int32)), (.int (100 : Int32))] (.int (0 : Int32))) (E_ei : Exa Z Z.heap ei "com/example/umpire/umpire/xsts/Validity") (F_ei : Fld Z Z.heap ei "com/example/umpire/umpire/xsts/Validity" "word" "Ljava/lang/String;" (.ref si)) (E_si : Exa Z Z.heap si "java/lang/String") (C_si : Fld Z Z.heap si "java/lang/String" "coder" "B" (.int (0 : Int32))) (F_si : Fld Z Z.heap si "java/lang/String" "value" "[B" (.ref bi)) (V_bi : Arv Z Z.heap bi ki .byte (7 : Int32) [(.int (105 : Int32)), (.int (110 : Int32)), (.int (118 : Int32)), (.int (97 : Int32)), (.int (108 : Int32)), (.int (105 : Int32)), (.int (100 : Int32))] (.int (0 : Int32))) (E_oe : Exa Z Z.heap oe "java/util/Optional") (F_oe : Fld Z Z.heap oe "java/util/Optional" "value" "Ljava/lang/Object;" .null) :
    MetFree l (⟨"com/example/umpire/umpire/xsts/Validity", "of", "(Ljava/lang/String;)Ljava/util/Optional;"⟩ : MethodName) (head1 (Jvm.Cond.code (⟨"com/example/umpire/umpire/xsts/Validity", "of", "(Ljava/lang/String;)Ljava/util/Optional;"⟩ : MethodName) prog_52_method_6_code 5 (some (.object "java/util/Optional")) :: ws) ({ frames := 3, cells := 2, slots := 3, locals := 38 } : Room)) (fun a U => a = #[(.ref wa)] ∧ Z.Warmed39 U.vm ∧ U.heap = h0) (fun _ _ _ _ _ => True) (fun _ U o U' => ∃ v L, o = .returned v ∧ (Q_ofI Z wa wb wk zn wl va vk ev ei sv bv kv si bi ki oe ic h0 n0) v U'.heap L ∧ FrameEnd U o U' L ({ frames := 3, cells := 2, slots := 3, locals := 38 } : Room).cells ({ frames := 3, cells := 2, slots := 3, locals := 38 } : Room).slots) := by
  refine MetFree.of_bodySF (plainFor_of_name pn_7) hisR ?_
  intro p e s m args below meth c s₁ Bd hml0 hP hK
  obtain ⟨rfl, hZ, hh⟩ := hP
  have hx := Bd.exec
  have hby := Bd.bytes
  have hW := fun i d (h : tables_1[i]? = some d) => hw d (List.mem_of_getElem? h)
  have hlk : meth.locks = false := BodyLoose.notSynchronized Bd
  have hml : c.maxLocals = 5 := hml0
  have hown : s.vm.findClass "com/example/umpire/umpire/xsts/Validity" = some m.cls := findClass_of_methodNamed Bd.named
  have hnm := (name_of_methodNamed Bd.named Bd.method).1
  have X0 : Stand p l e ({ frames := 3, cells := 2, slots := 3, locals := 38 } : Room) s m #[(.ref wa)] below meth c s₁ [] 0 0 := Stand.of_body Bd
  have e0 : s₁.heap = h0 := by rw [← hh, Bd.state]; rfl
  have N0 := Fr.nil n0
  show own_Go p e below s (Q_ofI Z wa wb wk zn wl va vk ev ei sv bv kv si bi ki oe ic h0 n0) ({ frames := 3, cells := 2, slots := 3, locals := 38 } : Room).cells ({ frames := 3, cells := 2, slots := 3, locals := 38 } : Room).slots s₁ (entryFrame m #[(.ref wa)] 5)
  refine own_cast (g' := (mkF m 0 #[rv wa, u_, u_, u_, u_] [])) (ef_rm_ofI m wa) ?_
  have K0 : Keep h0 h0 [] := Keep.refl _ _
  obtain ⟨_, _, ⟨T4, L4, k4, n4⟩, -, X4, ⟨Lc4, hQ4, lq4, yq4, zq4⟩, st4⟩ := Jvm.LawKit.callS X0 hx (y := (⟨"com/example/umpire/umpire/xsts/Validity", "values", "()[Lcom/example/umpire/umpire/xsts/Validity;"⟩ : MethodName)) hown (mvT hZ (hW 85 _ rfl)) (mvT hZ (hW 86 _ rfl)) (mvT hZ (hW 80 _ rfl)) (mvT hZ (hW 87 _ rfl)) (by decide) (backOf (W := 0) (rm_vls l Z a0 hw [] va vk ev ei h0 n0 Z0 O0 S_vs E_va V_va) hZ (hW 87 _ rfl) (hW 80 _ rfl) (by decide) (by decide)) (g := (mkF m 0 #[rv wa, u_, u_, u_, u_] [])) rfl (by rw [hml]; rfl) (argsL := []) (rest := []) (lenOf pd_14 rfl) rfl (by show 2 * 0 + _ ≤ _; exact Nat.le_of_eq rfl) (hb hby d17_0) (fun _ _ => ⟨rfl, e0, (by decide : 0 + 1 ≤ _), (by decide : 0 + 2 ≤ _)⟩)
  dsimp only [Pt.U, Pt.locs, Pt.cells, Pt.slots] at X4 lq4 yq4 zq4 st4 hQ4
  subst lq4 yq4 zq4
  obtain ⟨nv_1, rfl, Nq4, K2, fz_nv_1, g3⟩ := hQ4
  have N4 := Fr.app N0 Nq4
  have oz_nv_1 : n0 ≤ nv_1 := Nat.le_trans Z0 fz_nv_1
  have nz_wa_nv_1 : wa ≠ nv_1 := Nat.ne_of_lt (Nat.lt_of_lt_of_le F_0.lt fz_nv_1)
  have nz_wb_nv_1 : wb ≠ nv_1 := Nat.ne_of_lt (Nat.lt_of_lt_of_le F_3.lt fz_nv_1)
  have fr_nv_1 : h0.size ≤ nv_1 := Nat.le_trans K0.1 fz_nv_1
  have g5 := F_0.keep K2
  have g6 := F_1.keep K2 nin0
  have g7 := F_2.keep K2 nin0
  have g8 := F_3.keep K2 nin0
  have Z2 : n0 ≤ T4.heap.size := (Nat.le_trans Z0 K2.1)
  have O2 : Old Z n0 T4.heap := O0.keep K2 (all0 (P := fun x => n0 ≤ x))
  have K9 : Keep h0 T4.heap [] := K0.trans K2 (all0 (P := fun x => x ∈ [] ∨ h0.size ≤ x))
  refine own_s T4 (mkF m 3 #[rv wa, u_, u_, u_, u_] [.ref nv_1]) st4 ?_
  refine own_s T4 (mkF m 4 #[rv wa, rv nv_1, u_, u_, u_] []) (fun t k => XS.astoreN X4.here hx rfl (hb hby d17_3) rfl rfl (l' := #[rv wa, rv nv_1, u_, u_, u_]) rfl k) ?_
  refine own_s T4 (mkF m 5 #[rv wa, rv nv_1, u_, u_, u_] [.ref nv_1]) (fun t k => XS.aloadN X4.here hx rfl (hb hby d17_4) rfl rfl k) ?_
  obtain ⟨cl10, Ar10, qa10, S10, M10, H10, U10⟩ := id g3
  have ln10 := len_of S10 M10
  refine own_s T4 (mkF m 6 #[rv wa, rv nv_1, u_, u_, u_] [.int 2]) (fun t k => X4.arraylength hx (cell := cl10) Ar10.1 (State.isArrayOf_alike hZ.alike Ar10.2.1) (g := (mkF m 5 #[rv wa, rv nv_1, u_, u_, u_] [.ref nv_1])) rfl rfl (hb hby d17_5) t (by rw [ln10]; exact k)) ?_
  refine own_s T4 (mkF m 7 #[rv wa, rv nv_1, iv 2, u_, u_] []) (fun t k => XS.istoreN X4.here hx rfl (hb hby d17_6) rfl (l' := #[rv wa, rv nv_1, iv 2, u_, u_]) rfl k) ?_
  refine own_s T4 (mkF m 8 #[rv wa, rv nv_1, iv 2, u_, u_] [.int 0]) (fun t k => XS.iconst X4.here hx rfl (hb hby d17_7) k) ?_
  refine own_s T4 (mkF m 9 #[rv wa, rv nv_1, iv 2, iv 0, u_] []) (fun t k => XS.istoreN X4.here hx rfl (hb hby d17_8) rfl (l' := #[rv wa, rv nv_1, iv 2, iv 0, u_]) rfl k) ?_
  refine own_s T4 (mkF m 10 #[rv wa, rv nv_1, iv 2, iv 0, u_] [.int 0]) (fun t k => XS.iloadN X4.here hx rfl (hb hby d17_9) rfl k) ?_
  refine own_s T4 (mkF m 11 #[rv wa, rv nv_1, iv 2, iv 0, u_] [.int 2, .int 0]) (fun t k => XS.iloadN X4.here hx rfl (hb hby d17_10) rfl k) ?_
  refine own_s T4 (mkF m 14 #[rv wa, rv nv_1, iv 2, iv 0, u_] []) (fun t k => XS.icmpNo X4.here hx rfl (hb hby d17_11) rfl (tlt (by decide : ((0 : Int32) < (2 : Int32)))).2.1 k) ?_
  refine own_s T4 (mkF m 15 #[rv wa, rv nv_1, iv 2, iv 0, u_] [.ref nv_1]) (fun t k => XS.aloadN X4.here hx rfl (hb hby d17_14) rfl rfl k) ?_
  refine own_s T4 (mkF m 16 #[rv wa, rv nv_1, iv 2, iv 0, u_] [.int 0, .ref nv_1]) (fun t k => XS.iloadN X4.here hx rfl (hb hby d17_15) rfl k) ?_
  obtain ⟨cl11, Ar11, qa11, S11, M11, H11, U11⟩ := id g3
  have hi11 := inb_of S11 (j := (0 : Int32)) ⟨by decide, by decide⟩
  have hat11 := H11.at hi11 (v := (.ref ev)) rfl
  refine own_s T4 (mkF m 17 #[rv wa, rv nv_1, iv 2, iv 0, u_] [.ref ev]) (fun t k => X4.aaload hx (j := (0 : Int32)) (v := (.ref ev)) Ar11.1 (State.isArrayOf_alike hZ.alike Ar11.2.1) rfl Ar11.2.2 hi11 hat11 (g := (mkF m 16 #[rv wa, rv nv_1, iv 2, iv 0, u_] [.int 0, .ref nv_1])) rfl rfl (hb hby d17_16) t k) ?_
  refine own_s T4 (mkF m 19 #[rv wa, rv nv_1, iv 2, iv 0, rv ev] []) (fun t k => XS.astore X4.here hx rfl (hb hby d17_17) rfl rfl (l' := #[rv wa, rv nv_1, iv 2, iv 0, rv ev]) rfl k) ?_
  refine own_s T4 (mkF m 21 #[rv wa, rv nv_1, iv 2, iv 0, rv ev] [.ref ev]) (fun t k => XS.aload X4.here hx rfl (hb hby d17_19) rfl rfl k) ?_
  obtain ⟨T12, X12, e12, st12⟩ := getF X4 hx hZ hown (host := "") (Or.inl (hW 101 _ rfl)) Via.refl rfl (F_ev.ext O2.2) (g := (mkF m 21 #[rv wa, rv nv_1, iv 2, iv 0, rv ev] [.ref ev])) rfl rfl (hb hby d17_21)
  refine own_s T12 (mkF m 24 #[rv wa, rv nv_1, iv 2, iv 0, rv ev] [.ref sv]) st12 ?_
  refine own_s T12 (mkF m 25 #[rv wa, rv nv_1, iv 2, iv 0, rv ev] [.ref wa, .ref sv]) (fun t k => XS.aloadN X12.here hx rfl (hb hby d17_24) rfl rfl k) ?_
  obtain ⟨cq16, kq16, q16a, q16b, q16c⟩ := isOf hZ e12 (E_sv.ext O2.2)
  obtain ⟨_, _, ⟨T15, L15, k15, n15⟩, -, X15, ⟨Lc15, hQ15, lq15, yq15, zq15⟩, st15⟩ := X12.virtualBack hx (y := (⟨"java/lang/String", "equals", "(Ljava/lang/Object;)Z"⟩ : MethodName)) (z := (⟨"java/lang/String", "equals", "(Ljava/lang/Object;)Z"⟩ : MethodName)) hown (mvT hZ (hW 103 _ rfl)) (mvT hZ (hW 71 _ rfl)) (notFace_of_selects (args := #[]) (mvT hZ (hW 73 _ rfl))) (mvT hZ (hW 73 _ rfl)) (mvT hZ (hW 72 _ rfl)) (by decide) (backOf (W := 0) (rm_seqV0 l Z a0 hw [] wa wb wk zn wl sv bv kv ic T4.heap n0 Z2 g5 g6 g7 g8 (E_sv.ext O2.2) (C_sv.ext O2.2) (F_sv.ext O2.2) (V_bv.ext O2.2) n_sv_wa O2 hform S_c hic) hZ (hW 74 _ rfl) (hW 1 _ rfl) (by decide) (by decide)) q16a q16c (g := (mkF m 25 #[rv wa, rv nv_1, iv 2, iv 0, rv ev] [.ref wa, .ref sv])) rfl (by rw [hml]; rfl) (Steps.refl _) (argsL := [(.ref wa)]) (rest := []) (lenOf pd_15 rfl) rfl (by show 2 * 0 + _ ≤ _; exact Nat.le_of_eq rfl) (hb hby d17_25) (fun _ _ => ⟨rfl, e12, (by decide : 1 + 0 ≤ _), (by decide : 2 + 0 ≤ _)⟩)
  dsimp only [Pt.U, Pt.locs, Pt.cells, Pt.slots] at X15 lq15 yq15 zq15 st15 hQ15
  subst lq15 yq15 zq15
  obtain ⟨rfl, Nq15, eq14⟩ := hQ15
  have N15 := Fr.app N4 Nq15
  refine own_tr (T' := T15) (g' := (mkF m 28 #[rv wa, rv nv_1, iv 2, iv 0, rv ev] [.int (own_beq wl own_LV)])) st15 ?_
  refine own_s T15 (mkF m 37 #[rv wa, rv nv_1, iv 2, iv 0, rv ev] []) (fun t k => XS.ifYes X15.here hx rfl (pc0 := 28) (pc' := 37) rfl (hb hby d17_28) rfl ((if0 _ _).trans (teq hv).1) (by decide) (by decide) k) ?_
  refine own_s T15 (mkF m 40 #[rv wa, rv nv_1, iv 2, iv 1, rv ev] []) (fun t k => XS.iinc X15.here hx rfl (hb hby d17_37) rfl (l' := #[rv wa, rv nv_1, iv 2, iv 1, rv ev]) rfl k) ?_
  refine own_s T15 (mkF m 9 #[rv wa, rv nv_1, iv 2, iv 1, rv ev] []) (fun t k => XS.goto X15.here hx rfl (pc0 := 40) (pc' := 9) rfl (hb hby d17_40) (by decide) (by decide) k) ?_
  refine own_s T15 (mkF m 10 #[rv wa, rv nv_1, iv 2, iv 1, rv ev] [.int 1]) (fun t k => XS.iloadN X15.here hx rfl (hb hby d17_9) rfl k) ?_
  refine own_s T15 (mkF m 11 #[rv wa, rv nv_1, iv 2, iv 1, rv ev] [.int 2, .int 1]) (fun t k => XS.iloadN X15.here hx rfl (hb hby d17_10) rfl k) ?_
  refine own_s T15 (mkF m 14 #[rv wa, rv nv_1, iv 2, iv 1, rv ev] []) (fun t k => XS.icmpNo X15.here hx rfl (hb hby d17_11) rfl (tlt (by decide : ((1 : Int32) < (2 : Int32)))).2.1 k) ?_
  refine own_s T15 (mkF m 15 #[rv wa, rv nv_1, iv 2, iv 1, rv ev] [.ref nv_1]) (fun t k => XS.aloadN X15.here hx rfl (hb hby d17_14) rfl rfl k) ?_
  refine own_s T15 (mkF m 16 #[rv wa, rv nv_1, iv 2, iv 1, rv ev] [.int 1, .ref nv_1]) (fun t k => XS.iloadN X15.here hx rfl (hb hby d17_15) rfl k) ?_
  obtain ⟨cl17, Ar17, qa17, S17, M17, H17, U17⟩ := id g3
  have hi17 := inb_of S17 (j := (1 : Int32)) ⟨by decide, by decide⟩
  have hat17 := H17.at hi17 (v := (.ref ei)) rfl
  refine own_s T15 (mkF m 17 #[rv wa, rv nv_1, iv 2, iv 1, rv ev] [.ref ei]) (fun t k => X15.aaload hx (j := (1 : Int32)) (v := (.ref ei)) (by rw [eq14]; exact Ar17.1) (State.isArrayOf_alike hZ.alike Ar17.2.1) rfl Ar17.2.2 hi17 hat17 (g := (mkF m 16 #[rv wa, rv nv_1, iv 2, iv 1, rv ev] [.int 1, .ref nv_1])) rfl rfl (hb hby d17_16) t k) ?_
  refine own_s T15 (mkF m 19 #[rv wa, rv nv_1, iv 2, iv 1, rv ei] []) (fun t k => XS.astore X15.here hx rfl (hb hby d17_17) rfl rfl (l' := #[rv wa, rv nv_1, iv 2, iv 1, rv ei]) rfl k) ?_
  refine own_s T15 (mkF m 21 #[rv wa, rv nv_1, iv 2, iv 1, rv ei] [.ref ei]) (fun t k => XS.aload X15.here hx rfl (hb hby d17_19) rfl rfl k) ?_
  obtain ⟨T18, X18, e18, st18⟩ := getF X15 hx hZ hown (host := "") (Or.inl (hW 101 _ rfl)) Via.refl eq14 (F_ei.ext O2.2) (g := (mkF m 21 #[rv wa, rv nv_1, iv 2, iv 1, rv ei] [.ref ei])) rfl rfl (hb hby d17_21)
  refine own_s T18 (mkF m 24 #[rv wa, rv nv_1, iv 2, iv 1, rv ei] [.ref si]) st18 ?_
  refine own_s T18 (mkF m 25 #[rv wa, rv nv_1, iv 2, iv 1, rv ei] [.ref wa, .ref si]) (fun t k => XS.aloadN X18.here hx rfl (hb hby d17_24) rfl rfl k) ?_
  obtain ⟨cq22, kq22, q22a, q22b, q22c⟩ := isOf hZ e18 (E_si.ext O2.2)
  obtain ⟨_, _, ⟨T21, L21, k21, n21⟩, -, X21, ⟨Lc21, hQ21, lq21, yq21, zq21⟩, st21⟩ := X18.virtualBack hx (y := (⟨"java/lang/String", "equals", "(Ljava/lang/Object;)Z"⟩ : MethodName)) (z := (⟨"java/lang/String", "equals", "(Ljava/lang/Object;)Z"⟩ : MethodName)) hown (mvT hZ (hW 103 _ rfl)) (mvT hZ (hW 71 _ rfl)) (notFace_of_selects (args := #[]) (mvT hZ (hW 73 _ rfl))) (mvT hZ (hW 73 _ rfl)) (mvT hZ (hW 72 _ rfl)) (by decide) (backOf (W := 0) (rm_seqI0 l Z a0 hw [] wa wb wk zn wl si bi ki ic T4.heap n0 Z2 g5 g6 g7 g8 (E_si.ext O2.2) (C_si.ext O2.2) (F_si.ext O2.2) (V_bi.ext O2.2) n_si_wa O2 hform S_c hic) hZ (hW 74 _ rfl) (hW 1 _ rfl) (by decide) (by decide)) q22a q22c (g := (mkF m 25 #[rv wa, rv nv_1, iv 2, iv 1, rv ei] [.ref wa, .ref si])) rfl (by rw [hml]; rfl) (Steps.refl _) (argsL := [(.ref wa)]) (rest := []) (lenOf pd_15 rfl) rfl (by show 2 * 0 + _ ≤ _; exact Nat.le_of_eq rfl) (hb hby d17_25) (fun _ _ => ⟨rfl, e18, (by decide : 1 + 0 ≤ _), (by decide : 2 + 0 ≤ _)⟩)
  dsimp only [Pt.U, Pt.locs, Pt.cells, Pt.slots] at X21 lq21 yq21 zq21 st21 hQ21
  subst lq21 yq21 zq21
  obtain ⟨rfl, Nq21, eq20⟩ := hQ21
  have N21 := Fr.app N15 Nq21
  refine own_tr (T' := T21) (g' := (mkF m 28 #[rv wa, rv nv_1, iv 2, iv 1, rv ei] [.int (own_beq wl own_LI)])) st21 ?_
  refine own_s T21 (mkF m 31 #[rv wa, rv nv_1, iv 2, iv 1, rv ei] []) (fun t k => XS.ifNo X21.here hx rfl (hb hby d17_28) rfl ((if0 _ _).trans (feq hi).1) k) ?_
  refine own_s T21 (mkF m 33 #[rv wa, rv nv_1, iv 2, iv 1, rv ei] [.ref ei]) (fun t k => XS.aload X21.here hx rfl (hb hby d17_31) rfl rfl k) ?_
  obtain ⟨_, _, ⟨T27, L27, k27, n27⟩, -, X27, ⟨Lc27, hQ27, lq27, yq27, zq27⟩, st27⟩ := Jvm.LawKit.callS X21 hx (y := (⟨"java/util/Optional", "of", "(Ljava/lang/Object;)Ljava/util/Optional;"⟩ : MethodName)) hown (mvT hZ (hW 104 _ rfl)) (mvT hZ (hW 105 _ rfl)) (mvT hZ (hW 106 _ rfl)) (mvT hZ (hW 107 _ rfl)) (by decide) (backOf (W := 0) (rm_oof l Z a0 hw [] ei T4.heap n0 Z2 ) hZ (hW 107 _ rfl) (hW 106 _ rfl) (by decide) (by decide)) (g := (mkF m 33 #[rv wa, rv nv_1, iv 2, iv 1, rv ei] [.ref ei])) rfl (by rw [hml]; rfl) (argsL := [(.ref ei)]) (rest := []) (lenOf pd_16 rfl) rfl (by show 2 * 0 + _ ≤ _; exact Nat.le_of_eq rfl) (hb hby d17_33) (fun _ _ => ⟨rfl, eq20, (by decide : 1 + 1 ≤ _), (by decide : 2 + 1 ≤ _)⟩)
  dsimp only [Pt.U, Pt.locs, Pt.cells, Pt.slots] at X27 lq27 yq27 zq27 st27 hQ27
  subst lq27 yq27 zq27
  obtain ⟨ob_23, rfl, Nq27, K24, fz_ob_23, g25, g26⟩ := hQ27
  have N27 := Fr.app N21 Nq27
  have oz_ob_23 : n0 ≤ ob_23 := Nat.le_trans Z2 fz_ob_23
  have nz_wa_ob_23 : wa ≠ ob_23 := Nat.ne_of_lt (Nat.lt_of_lt_of_le g5.lt fz_ob_23)
  have nz_wb_ob_23 : wb ≠ ob_23 := Nat.ne_of_lt (Nat.lt_of_lt_of_le g8.lt fz_ob_23)
  have nz_nv_1_ob_23 : nv_1 ≠ ob_23 := Nat.ne_of_lt (Nat.lt_of_lt_of_le g3.lt fz_ob_23)
  have fr_ob_23 : h0.size ≤ ob_23 := Nat.le_trans K9.1 fz_ob_23
  have g28 := g5.keep K24
  have g29 := g6.keep K24 nin0
  have g30 := g7.keep K24 nin0
  have g31 := g8.keep K24 nin0
  have g32 := g3.keep K24 nin0
  have Z24 : n0 ≤ T27.heap.size := (Nat.le_trans Z2 K24.1)
  have O24 : Old Z n0 T27.heap := O2.keep K24 (all0 (P := fun x => n0 ≤ x))
  have K33 : Keep h0 T27.heap [] := K9.trans K24 (all0 (P := fun x => x ∈ [] ∨ h0.size ≤ x))
  refine own_s T27 (mkF m 36 #[rv wa, rv nv_1, iv 2, iv 1, rv ei] [.ref ob_23]) st27 ?_
  refine own_rA X27 hx hlk Bd.returns rfl (w := (.ref ob_23)) rfl (hb hby d17_36) ?_ (by decide) (by decide)
  exact ⟨ob_23, rfl, N27, K33, fr_ob_23, g25, g26⟩
def Q_ofN (Z : State) (wa : Addr) (wb : Addr) (wk : ClassId) (zn : Int32) (wl : List Value) (va : Addr) (vk : ClassId) (ev : Addr) (ei : Addr) (sv : Addr) (bv : Addr) (kv : ClassId) (si : Addr) (bi : Addr) (ki : ClassId) (oe : Addr) (ic : Int32) (h0 : Heap) (n0 : Nat) (v : Option Value) (h : Heap) (L : List Loc) : Prop := v = some (.ref oe) ∧ Fr n0 L ∧ Keep h0 h []
theorem ef_rm_ofN (m : MethodId) (x0 : Addr) : entryFrame m #[(.ref x0)] 5 = mkF m 0 #[.val (.ref x0), .unset, .unset, .unset, .unset] [] := by first | (simp [entryFrame, mkF, argsToLocals, Value.category]; done) | rfl | (simp [entryFrame, mkF, argsToLocals, Value.category] <;> rfl)
theorem pd_17 : parseMethodDescriptor "()Ljava/util/Optional;" = some ⟨[], some (.object "java/util/Optional")⟩ := by decide +kernel
theorem d17_43 : decode prog_52_method_6_code 43 = .ok (.invokestatic 77, 3) := by decide +kernel
theorem d17_46 : decode prog_52_method_6_code 46 = .ok (.areturn, 1) := by decide +kernel
set_option maxRecDepth 65536 in
set_option maxHeartbeats 40000000 in
theorem rm_ofN (l : Launch) (Z : State) (a0 : Array Value) (hw : ∀ d ∈ tables_1, d.before a0 Z = true) (ws : List Jvm.Cond) (wa : Addr) (wb : Addr) (wk : ClassId) (zn : Int32) (wl : List Value) (va : Addr) (vk : ClassId) (ev : Addr) (ei : Addr) (sv : Addr) (bv : Addr) (kv : ClassId) (si : Addr) (bi : Addr) (ki : ClassId) (oe : Addr) (ic : Int32) (h0 : Heap) (n0 : Nat) (Z0 : n0 ≤ h0.size) (F_0 : Exa Z h0 wa "java/lang/String") (F_1 : Fld Z h0 wa "java/lang/String" "coder" "B" (.int (0 : Int32))) (F_2 : Fld Z h0 wa "java/lang/String" "value" "[B" (.ref wb)) (F_3 : Arv Z h0 wb wk .byte zn wl (.int (0 : Int32))) (n_sv_wa : sv ≠ wa) (n_si_wa : si ≠ wa) (O0 : Old Z n0 h0) (hform : own_form zn wl) (hv : own_beq wl own_LV = 0) (hi : own_beq wl own_LI = 0) (S_c : Sta Z Z.heap "java/lang/String" "COMPACT_STRINGS" "Z" (.int ic)) (hic : ¬ ic = 0) (S_oe : Sta Z Z.heap "java/util/Optional" "EMPTY" "Ljava/util/Optional;" (.ref oe)) (S_vs : Sta Z Z.heap "com/example/umpire/umpire/xsts/Validity" "$VALUES" "[Lcom/example/umpire/umpire/xsts/Validity;" (.ref va)) (E_va : Exa Z Z.heap va "[Lcom/example/umpire/umpire/xsts/Validity;") (V_va : Arv Z Z.heap va vk (.object "com/example/umpire/umpire/xsts/Validity") (2 : Int32) [(.ref ev), (.ref ei)] .null) (E_ev : Exa Z Z.heap ev "com/example/umpire/umpire/xsts/Validity") (F_ev : Fld Z Z.heap ev "com/example/umpire/umpire/xsts/Validity" "word" "Ljava/lang/String;" (.ref sv)) (E_sv : Exa Z Z.heap sv "java/lang/String") (C_sv : Fld Z Z.heap sv "java/lang/String" "coder" "B" (.int (0 : Int32))) (F_sv : Fld Z Z.heap sv "java/lang/String" "value" "[B" (.ref bv)) (V_bv : Arv Z Z.heap bv kv .byte (5 : Int32) [(.int (118 : Int32)), (.int (97 : Int32)), (.int (108 : Int32)), (.int (105 : Int32)), (.int (100 : Int32))] (.int (0 : Int32))) (E_ei : Exa Z Z.heap ei "com/example/umpire/umpire/xsts/Validity") (F_ei : Fld Z Z.heap ei "com/example/umpire/umpire/xsts/Validity" "word" "Ljava/lang/String;" (.ref si)) (E_si : Exa Z Z.heap si "java/lang/String") (C_si : Fld Z Z.heap si "java/lang/String" "coder" "B" (.int (0 : Int32))) (F_si : Fld Z Z.heap si "java/lang/String" "value" "[B" (.ref bi)) (V_bi : Arv Z Z.heap bi ki .byte (7 : Int32) [(.int (105 : Int32)), (.int (110 : Int32)), (.int (118 : Int32)), (.int (97 : Int32)), (.int (108 : Int32)), (.int (105 : Int32)), (.int (100 : Int32))] (.int (0 : Int32))) (E_oe : Exa Z Z.heap oe "java/util/Optional") (F_oe : Fld Z Z.heap oe "java/util/Optional" "value" "Ljava/lang/Object;" .null) :
    MetFree l (⟨"com/example/umpire/umpire/xsts/Validity", "of", "(Ljava/lang/String;)Ljava/util/Optional;"⟩ : MethodName) (head1 (Jvm.Cond.code (⟨"com/example/umpire/umpire/xsts/Validity", "of", "(Ljava/lang/String;)Ljava/util/Optional;"⟩ : MethodName) prog_52_method_6_code 5 (some (.object "java/util/Optional")) :: ws) ({ frames := 2, cells := 1, slots := 2, locals := 28 } : Room)) (fun a U => a = #[(.ref wa)] ∧ Z.Warmed39 U.vm ∧ U.heap = h0) (fun _ _ _ _ _ => True) (fun _ U o U' => ∃ v L, o = .returned v ∧ (Q_ofN Z wa wb wk zn wl va vk ev ei sv bv kv si bi ki oe ic h0 n0) v U'.heap L ∧ FrameEnd U o U' L ({ frames := 2, cells := 1, slots := 2, locals := 28 } : Room).cells ({ frames := 2, cells := 1, slots := 2, locals := 28 } : Room).slots) := by
  refine MetFree.of_bodySF (plainFor_of_name pn_7) hisR ?_
  intro p e s m args below meth c s₁ Bd hml0 hP hK
  obtain ⟨rfl, hZ, hh⟩ := hP
  have hx := Bd.exec
  have hby := Bd.bytes
  have hW := fun i d (h : tables_1[i]? = some d) => hw d (List.mem_of_getElem? h)
  have hlk : meth.locks = false := BodyLoose.notSynchronized Bd
  have hml : c.maxLocals = 5 := hml0
  have hown : s.vm.findClass "com/example/umpire/umpire/xsts/Validity" = some m.cls := findClass_of_methodNamed Bd.named
  have hnm := (name_of_methodNamed Bd.named Bd.method).1
  have X0 : Stand p l e ({ frames := 2, cells := 1, slots := 2, locals := 28 } : Room) s m #[(.ref wa)] below meth c s₁ [] 0 0 := Stand.of_body Bd
  have e0 : s₁.heap = h0 := by rw [← hh, Bd.state]; rfl
  have N0 := Fr.nil n0
  show own_Go p e below s (Q_ofN Z wa wb wk zn wl va vk ev ei sv bv kv si bi ki oe ic h0 n0) ({ frames := 2, cells := 1, slots := 2, locals := 28 } : Room).cells ({ frames := 2, cells := 1, slots := 2, locals := 28 } : Room).slots s₁ (entryFrame m #[(.ref wa)] 5)
  refine own_cast (g' := (mkF m 0 #[rv wa, u_, u_, u_, u_] [])) (ef_rm_ofN m wa) ?_
  have K0 : Keep h0 h0 [] := Keep.refl _ _
  obtain ⟨_, _, ⟨T4, L4, k4, n4⟩, -, X4, ⟨Lc4, hQ4, lq4, yq4, zq4⟩, st4⟩ := Jvm.LawKit.callS X0 hx (y := (⟨"com/example/umpire/umpire/xsts/Validity", "values", "()[Lcom/example/umpire/umpire/xsts/Validity;"⟩ : MethodName)) hown (mvT hZ (hW 85 _ rfl)) (mvT hZ (hW 86 _ rfl)) (mvT hZ (hW 80 _ rfl)) (mvT hZ (hW 87 _ rfl)) (by decide) (backOf (W := 0) (rm_vls l Z a0 hw [] va vk ev ei h0 n0 Z0 O0 S_vs E_va V_va) hZ (hW 87 _ rfl) (hW 80 _ rfl) (by decide) (by decide)) (g := (mkF m 0 #[rv wa, u_, u_, u_, u_] [])) rfl (by rw [hml]; rfl) (argsL := []) (rest := []) (lenOf pd_14 rfl) rfl (by show 2 * 0 + _ ≤ _; exact Nat.le_of_eq rfl) (hb hby d17_0) (fun _ _ => ⟨rfl, e0, (by decide : 0 + 1 ≤ _), (by decide : 0 + 2 ≤ _)⟩)
  dsimp only [Pt.U, Pt.locs, Pt.cells, Pt.slots] at X4 lq4 yq4 zq4 st4 hQ4
  subst lq4 yq4 zq4
  obtain ⟨nv_1, rfl, Nq4, K2, fz_nv_1, g3⟩ := hQ4
  have N4 := Fr.app N0 Nq4
  have oz_nv_1 : n0 ≤ nv_1 := Nat.le_trans Z0 fz_nv_1
  have nz_wa_nv_1 : wa ≠ nv_1 := Nat.ne_of_lt (Nat.lt_of_lt_of_le F_0.lt fz_nv_1)
  have nz_wb_nv_1 : wb ≠ nv_1 := Nat.ne_of_lt (Nat.lt_of_lt_of_le F_3.lt fz_nv_1)
  have fr_nv_1 : h0.size ≤ nv_1 := Nat.le_trans K0.1 fz_nv_1
  have g5 := F_0.keep K2
  have g6 := F_1.keep K2 nin0
  have g7 := F_2.keep K2 nin0
  have g8 := F_3.keep K2 nin0
  have Z2 : n0 ≤ T4.heap.size := (Nat.le_trans Z0 K2.1)
  have O2 : Old Z n0 T4.heap := O0.keep K2 (all0 (P := fun x => n0 ≤ x))
  have K9 : Keep h0 T4.heap [] := K0.trans K2 (all0 (P := fun x => x ∈ [] ∨ h0.size ≤ x))
  refine own_s T4 (mkF m 3 #[rv wa, u_, u_, u_, u_] [.ref nv_1]) st4 ?_
  refine own_s T4 (mkF m 4 #[rv wa, rv nv_1, u_, u_, u_] []) (fun t k => XS.astoreN X4.here hx rfl (hb hby d17_3) rfl rfl (l' := #[rv wa, rv nv_1, u_, u_, u_]) rfl k) ?_
  refine own_s T4 (mkF m 5 #[rv wa, rv nv_1, u_, u_, u_] [.ref nv_1]) (fun t k => XS.aloadN X4.here hx rfl (hb hby d17_4) rfl rfl k) ?_
  obtain ⟨cl10, Ar10, qa10, S10, M10, H10, U10⟩ := id g3
  have ln10 := len_of S10 M10
  refine own_s T4 (mkF m 6 #[rv wa, rv nv_1, u_, u_, u_] [.int 2]) (fun t k => X4.arraylength hx (cell := cl10) Ar10.1 (State.isArrayOf_alike hZ.alike Ar10.2.1) (g := (mkF m 5 #[rv wa, rv nv_1, u_, u_, u_] [.ref nv_1])) rfl rfl (hb hby d17_5) t (by rw [ln10]; exact k)) ?_
  refine own_s T4 (mkF m 7 #[rv wa, rv nv_1, iv 2, u_, u_] []) (fun t k => XS.istoreN X4.here hx rfl (hb hby d17_6) rfl (l' := #[rv wa, rv nv_1, iv 2, u_, u_]) rfl k) ?_
  refine own_s T4 (mkF m 8 #[rv wa, rv nv_1, iv 2, u_, u_] [.int 0]) (fun t k => XS.iconst X4.here hx rfl (hb hby d17_7) k) ?_
  refine own_s T4 (mkF m 9 #[rv wa, rv nv_1, iv 2, iv 0, u_] []) (fun t k => XS.istoreN X4.here hx rfl (hb hby d17_8) rfl (l' := #[rv wa, rv nv_1, iv 2, iv 0, u_]) rfl k) ?_
  refine own_s T4 (mkF m 10 #[rv wa, rv nv_1, iv 2, iv 0, u_] [.int 0]) (fun t k => XS.iloadN X4.here hx rfl (hb hby d17_9) rfl k) ?_
  refine own_s T4 (mkF m 11 #[rv wa, rv nv_1, iv 2, iv 0, u_] [.int 2, .int 0]) (fun t k => XS.iloadN X4.here hx rfl (hb hby d17_10) rfl k) ?_
  refine own_s T4 (mkF m 14 #[rv wa, rv nv_1, iv 2, iv 0, u_] []) (fun t k => XS.icmpNo X4.here hx rfl (hb hby d17_11) rfl (tlt (by decide : ((0 : Int32) < (2 : Int32)))).2.1 k) ?_
  refine own_s T4 (mkF m 15 #[rv wa, rv nv_1, iv 2, iv 0, u_] [.ref nv_1]) (fun t k => XS.aloadN X4.here hx rfl (hb hby d17_14) rfl rfl k) ?_
  refine own_s T4 (mkF m 16 #[rv wa, rv nv_1, iv 2, iv 0, u_] [.int 0, .ref nv_1]) (fun t k => XS.iloadN X4.here hx rfl (hb hby d17_15) rfl k) ?_
  obtain ⟨cl11, Ar11, qa11, S11, M11, H11, U11⟩ := id g3
  have hi11 := inb_of S11 (j := (0 : Int32)) ⟨by decide, by decide⟩
  have hat11 := H11.at hi11 (v := (.ref ev)) rfl
  refine own_s T4 (mkF m 17 #[rv wa, rv nv_1, iv 2, iv 0, u_] [.ref ev]) (fun t k => X4.aaload hx (j := (0 : Int32)) (v := (.ref ev)) Ar11.1 (State.isArrayOf_alike hZ.alike Ar11.2.1) rfl Ar11.2.2 hi11 hat11 (g := (mkF m 16 #[rv wa, rv nv_1, iv 2, iv 0, u_] [.int 0, .ref nv_1])) rfl rfl (hb hby d17_16) t k) ?_
  refine own_s T4 (mkF m 19 #[rv wa, rv nv_1, iv 2, iv 0, rv ev] []) (fun t k => XS.astore X4.here hx rfl (hb hby d17_17) rfl rfl (l' := #[rv wa, rv nv_1, iv 2, iv 0, rv ev]) rfl k) ?_
  refine own_s T4 (mkF m 21 #[rv wa, rv nv_1, iv 2, iv 0, rv ev] [.ref ev]) (fun t k => XS.aload X4.here hx rfl (hb hby d17_19) rfl rfl k) ?_
  obtain ⟨T12, X12, e12, st12⟩ := getF X4 hx hZ hown (host := "") (Or.inl (hW 101 _ rfl)) Via.refl rfl (F_ev.ext O2.2) (g := (mkF m 21 #[rv wa, rv nv_1, iv 2, iv 0, rv ev] [.ref ev])) rfl rfl (hb hby d17_21)
  refine own_s T12 (mkF m 24 #[rv wa, rv nv_1, iv 2, iv 0, rv ev] [.ref sv]) st12 ?_
  refine own_s T12 (mkF m 25 #[rv wa, rv nv_1, iv 2, iv 0, rv ev] [.ref wa, .ref sv]) (fun t k => XS.aloadN X12.here hx rfl (hb hby d17_24) rfl rfl k) ?_
  obtain ⟨cq16, kq16, q16a, q16b, q16c⟩ := isOf hZ e12 (E_sv.ext O2.2)
  obtain ⟨_, _, ⟨T15, L15, k15, n15⟩, -, X15, ⟨Lc15, hQ15, lq15, yq15, zq15⟩, st15⟩ := X12.virtualBack hx (y := (⟨"java/lang/String", "equals", "(Ljava/lang/Object;)Z"⟩ : MethodName)) (z := (⟨"java/lang/String", "equals", "(Ljava/lang/Object;)Z"⟩ : MethodName)) hown (mvT hZ (hW 103 _ rfl)) (mvT hZ (hW 71 _ rfl)) (notFace_of_selects (args := #[]) (mvT hZ (hW 73 _ rfl))) (mvT hZ (hW 73 _ rfl)) (mvT hZ (hW 72 _ rfl)) (by decide) (backOf (W := 0) (rm_seqV0 l Z a0 hw [] wa wb wk zn wl sv bv kv ic T4.heap n0 Z2 g5 g6 g7 g8 (E_sv.ext O2.2) (C_sv.ext O2.2) (F_sv.ext O2.2) (V_bv.ext O2.2) n_sv_wa O2 hform S_c hic) hZ (hW 74 _ rfl) (hW 1 _ rfl) (by decide) (by decide)) q16a q16c (g := (mkF m 25 #[rv wa, rv nv_1, iv 2, iv 0, rv ev] [.ref wa, .ref sv])) rfl (by rw [hml]; rfl) (Steps.refl _) (argsL := [(.ref wa)]) (rest := []) (lenOf pd_15 rfl) rfl (by show 2 * 0 + _ ≤ _; exact Nat.le_of_eq rfl) (hb hby d17_25) (fun _ _ => ⟨rfl, e12, (by decide : 1 + 0 ≤ _), (by decide : 2 + 0 ≤ _)⟩)
  dsimp only [Pt.U, Pt.locs, Pt.cells, Pt.slots] at X15 lq15 yq15 zq15 st15 hQ15
  subst lq15 yq15 zq15
  obtain ⟨rfl, Nq15, eq14⟩ := hQ15
  have N15 := Fr.app N4 Nq15
  refine own_tr (T' := T15) (g' := (mkF m 28 #[rv wa, rv nv_1, iv 2, iv 0, rv ev] [.int (own_beq wl own_LV)])) st15 ?_
  refine own_s T15 (mkF m 37 #[rv wa, rv nv_1, iv 2, iv 0, rv ev] []) (fun t k => XS.ifYes X15.here hx rfl (pc0 := 28) (pc' := 37) rfl (hb hby d17_28) rfl ((if0 _ _).trans (teq hv).1) (by decide) (by decide) k) ?_
  refine own_s T15 (mkF m 40 #[rv wa, rv nv_1, iv 2, iv 1, rv ev] []) (fun t k => XS.iinc X15.here hx rfl (hb hby d17_37) rfl (l' := #[rv wa, rv nv_1, iv 2, iv 1, rv ev]) rfl k) ?_
  refine own_s T15 (mkF m 9 #[rv wa, rv nv_1, iv 2, iv 1, rv ev] []) (fun t k => XS.goto X15.here hx rfl (pc0 := 40) (pc' := 9) rfl (hb hby d17_40) (by decide) (by decide) k) ?_
  refine own_s T15 (mkF m 10 #[rv wa, rv nv_1, iv 2, iv 1, rv ev] [.int 1]) (fun t k => XS.iloadN X15.here hx rfl (hb hby d17_9) rfl k) ?_
  refine own_s T15 (mkF m 11 #[rv wa, rv nv_1, iv 2, iv 1, rv ev] [.int 2, .int 1]) (fun t k => XS.iloadN X15.here hx rfl (hb hby d17_10) rfl k) ?_
  refine own_s T15 (mkF m 14 #[rv wa, rv nv_1, iv 2, iv 1, rv ev] []) (fun t k => XS.icmpNo X15.here hx rfl (hb hby d17_11) rfl (tlt (by decide : ((1 : Int32) < (2 : Int32)))).2.1 k) ?_
  refine own_s T15 (mkF m 15 #[rv wa, rv nv_1, iv 2, iv 1, rv ev] [.ref nv_1]) (fun t k => XS.aloadN X15.here hx rfl (hb hby d17_14) rfl rfl k) ?_
  refine own_s T15 (mkF m 16 #[rv wa, rv nv_1, iv 2, iv 1, rv ev] [.int 1, .ref nv_1]) (fun t k => XS.iloadN X15.here hx rfl (hb hby d17_15) rfl k) ?_
  obtain ⟨cl17, Ar17, qa17, S17, M17, H17, U17⟩ := id g3
  have hi17 := inb_of S17 (j := (1 : Int32)) ⟨by decide, by decide⟩
  have hat17 := H17.at hi17 (v := (.ref ei)) rfl
  refine own_s T15 (mkF m 17 #[rv wa, rv nv_1, iv 2, iv 1, rv ev] [.ref ei]) (fun t k => X15.aaload hx (j := (1 : Int32)) (v := (.ref ei)) (by rw [eq14]; exact Ar17.1) (State.isArrayOf_alike hZ.alike Ar17.2.1) rfl Ar17.2.2 hi17 hat17 (g := (mkF m 16 #[rv wa, rv nv_1, iv 2, iv 1, rv ev] [.int 1, .ref nv_1])) rfl rfl (hb hby d17_16) t k) ?_
  refine own_s T15 (mkF m 19 #[rv wa, rv nv_1, iv 2, iv 1, rv ei] []) (fun t k => XS.astore X15.here hx rfl (hb hby d17_17) rfl rfl (l' := #[rv wa, rv nv_1, iv 2, iv 1, rv ei]) rfl k) ?_
  refine own_s T15 (mkF m 21 #[rv wa, rv nv_1, iv 2, iv 1, rv ei] [.ref ei]) (fun t k => XS.aload X15.here hx rfl (hb hby d17_19) rfl rfl k) ?_
  obtain ⟨T18, X18, e18, st18⟩ := getF X15 hx hZ hown (host := "") (Or.inl (hW 101 _ rfl)) Via.refl eq14 (F_ei.ext O2.2) (g := (mkF m 21 #[rv wa, rv nv_1, iv 2, iv 1, rv ei] [.ref ei])) rfl rfl (hb hby d17_21)
  refine own_s T18 (mkF m 24 #[rv wa, rv nv_1, iv 2, iv 1, rv ei] [.ref si]) st18 ?_
  refine own_s T18 (mkF m 25 #[rv wa, rv nv_1, iv 2, iv 1, rv ei] [.ref wa, .ref si]) (fun t k => XS.aloadN X18.here hx rfl (hb hby d17_24) rfl rfl k) ?_
  obtain ⟨cq22, kq22, q22a, q22b, q22c⟩ := isOf hZ e18 (E_si.ext O2.2)
  obtain ⟨_, _, ⟨T21, L21, k21, n21⟩, -, X21, ⟨Lc21, hQ21, lq21, yq21, zq21⟩, st21⟩ := X18.virtualBack hx (y := (⟨"java/lang/String", "equals", "(Ljava/lang/Object;)Z"⟩ : MethodName)) (z := (⟨"java/lang/String", "equals", "(Ljava/lang/Object;)Z"⟩ : MethodName)) hown (mvT hZ (hW 103 _ rfl)) (mvT hZ (hW 71 _ rfl)) (notFace_of_selects (args := #[]) (mvT hZ (hW 73 _ rfl))) (mvT hZ (hW 73 _ rfl)) (mvT hZ (hW 72 _ rfl)) (by decide) (backOf (W := 0) (rm_seqI0 l Z a0 hw [] wa wb wk zn wl si bi ki ic T4.heap n0 Z2 g5 g6 g7 g8 (E_si.ext O2.2) (C_si.ext O2.2) (F_si.ext O2.2) (V_bi.ext O2.2) n_si_wa O2 hform S_c hic) hZ (hW 74 _ rfl) (hW 1 _ rfl) (by decide) (by decide)) q22a q22c (g := (mkF m 25 #[rv wa, rv nv_1, iv 2, iv 1, rv ei] [.ref wa, .ref si])) rfl (by rw [hml]; rfl) (Steps.refl _) (argsL := [(.ref wa)]) (rest := []) (lenOf pd_15 rfl) rfl (by show 2 * 0 + _ ≤ _; exact Nat.le_of_eq rfl) (hb hby d17_25) (fun _ _ => ⟨rfl, e18, (by decide : 1 + 0 ≤ _), (by decide : 2 + 0 ≤ _)⟩)
  dsimp only [Pt.U, Pt.locs, Pt.cells, Pt.slots] at X21 lq21 yq21 zq21 st21 hQ21
  subst lq21 yq21 zq21
  obtain ⟨rfl, Nq21, eq20⟩ := hQ21
  have N21 := Fr.app N15 Nq21
  refine own_tr (T' := T21) (g' := (mkF m 28 #[rv wa, rv nv_1, iv 2, iv 1, rv ei] [.int (own_beq wl own_LI)])) st21 ?_
  refine own_s T21 (mkF m 37 #[rv wa, rv nv_1, iv 2, iv 1, rv ei] []) (fun t k => XS.ifYes X21.here hx rfl (pc0 := 28) (pc' := 37) rfl (hb hby d17_28) rfl ((if0 _ _).trans (teq hi).1) (by decide) (by decide) k) ?_
  refine own_s T21 (mkF m 40 #[rv wa, rv nv_1, iv 2, iv 2, rv ei] []) (fun t k => XS.iinc X21.here hx rfl (hb hby d17_37) rfl (l' := #[rv wa, rv nv_1, iv 2, iv 2, rv ei]) rfl k) ?_
  refine own_s T21 (mkF m 9 #[rv wa, rv nv_1, iv 2, iv 2, rv ei] []) (fun t k => XS.goto X21.here hx rfl (pc0 := 40) (pc' := 9) rfl (hb hby d17_40) (by decide) (by decide) k) ?_
  refine own_s T21 (mkF m 10 #[rv wa, rv nv_1, iv 2, iv 2, rv ei] [.int 2]) (fun t k => XS.iloadN X21.here hx rfl (hb hby d17_9) rfl k) ?_
  refine own_s T21 (mkF m 11 #[rv wa, rv nv_1, iv 2, iv 2, rv ei] [.int 2, .int 2]) (fun t k => XS.iloadN X21.here hx rfl (hb hby d17_10) rfl k) ?_
  refine own_s T21 (mkF m 43 #[rv wa, rv nv_1, iv 2, iv 2, rv ei] []) (fun t k => XS.icmpYes X21.here hx rfl (pc0 := 11) (pc' := 43) rfl (hb hby d17_11) rfl (flt (by decide : ¬ ((2 : Int32) < (2 : Int32)))).2.1 (by decide) (by decide) k) ?_
  obtain ⟨_, _, ⟨T25, L25, k25, n25⟩, -, X25, ⟨Lc25, hQ25, lq25, yq25, zq25⟩, st25⟩ := Jvm.LawKit.callS X21 hx (y := (⟨"java/util/Optional", "empty", "()Ljava/util/Optional;"⟩ : MethodName)) hown (mvT hZ (hW 129 _ rfl)) (mvT hZ (hW 130 _ rfl)) (mvT hZ (hW 106 _ rfl)) (mvT hZ (hW 131 _ rfl)) (by decide) (backOf (W := 0) (rm_oem l Z a0 hw [] oe T4.heap n0 Z2 O2 S_oe) hZ (hW 131 _ rfl) (hW 106 _ rfl) (by decide) (by decide)) (g := (mkF m 43 #[rv wa, rv nv_1, iv 2, iv 2, rv ei] [])) rfl (by rw [hml]; rfl) (argsL := []) (rest := []) (lenOf pd_17 rfl) rfl (by show 2 * 0 + _ ≤ _; exact Nat.le_of_eq rfl) (hb hby d17_43) (fun _ _ => ⟨rfl, eq20, (by decide : 1 + 0 ≤ _), (by decide : 2 + 0 ≤ _)⟩)
  dsimp only [Pt.U, Pt.locs, Pt.cells, Pt.slots] at X25 lq25 yq25 zq25 st25 hQ25
  subst lq25 yq25 zq25
  obtain ⟨rfl, Nq25, eq24⟩ := hQ25
  have N25 := Fr.app N21 Nq25
  refine own_s T25 (mkF m 46 #[rv wa, rv nv_1, iv 2, iv 2, rv ei] [.ref oe]) st25 ?_
  refine own_rA X25 hx hlk Bd.returns rfl (w := (.ref oe)) rfl (hb hby d17_46) ?_ (by decide) (by decide)
  rw [eq24]
  exact ⟨rfl, N25, K9⟩
def Q_of0 (Z : State) (va : Addr) (vk : ClassId) (ev : Addr) (ei : Addr) (sv : Addr) (bv : Addr) (kv : ClassId) (si : Addr) (bi : Addr) (ki : ClassId) (oe : Addr) (ic : Int32) (h0 : Heap) (n0 : Nat) (v : Option Value) (h : Heap) (L : List Loc) : Prop := v = some (.ref oe) ∧ Fr n0 L ∧ Keep h0 h []
theorem ef_rm_of0 (m : MethodId)  : entryFrame m #[.null] 5 = mkF m 0 #[.val .null, .unset, .unset, .unset, .unset] [] := by first | (simp [entryFrame, mkF, argsToLocals, Value.category]; done) | rfl | (simp [entryFrame, mkF, argsToLocals, Value.category] <;> rfl)
set_option maxRecDepth 65536 in
set_option maxHeartbeats 40000000 in
theorem rm_of0 (l : Launch) (Z : State) (a0 : Array Value) (hw : ∀ d ∈ tables_1, d.before a0 Z = true) (ws : List Jvm.Cond) (va : Addr) (vk : ClassId) (ev : Addr) (ei : Addr) (sv : Addr) (bv : Addr) (kv : ClassId) (si : Addr) (bi : Addr) (ki : ClassId) (oe : Addr) (ic : Int32) (h0 : Heap) (n0 : Nat) (Z0 : n0 ≤ h0.size) (O0 : Old Z n0 h0) (S_c : Sta Z Z.heap "java/lang/String" "COMPACT_STRINGS" "Z" (.int ic)) (hic : ¬ ic = 0) (S_oe : Sta Z Z.heap "java/util/Optional" "EMPTY" "Ljava/util/Optional;" (.ref oe)) (S_vs : Sta Z Z.heap "com/example/umpire/umpire/xsts/Validity" "$VALUES" "[Lcom/example/umpire/umpire/xsts/Validity;" (.ref va)) (E_va : Exa Z Z.heap va "[Lcom/example/umpire/umpire/xsts/Validity;") (V_va : Arv Z Z.heap va vk (.object "com/example/umpire/umpire/xsts/Validity") (2 : Int32) [(.ref ev), (.ref ei)] .null) (E_ev : Exa Z Z.heap ev "com/example/umpire/umpire/xsts/Validity") (F_ev : Fld Z Z.heap ev "com/example/umpire/umpire/xsts/Validity" "word" "Ljava/lang/String;" (.ref sv)) (E_sv : Exa Z Z.heap sv "java/lang/String") (C_sv : Fld Z Z.heap sv "java/lang/String" "coder" "B" (.int (0 : Int32))) (F_sv : Fld Z Z.heap sv "java/lang/String" "value" "[B" (.ref bv)) (V_bv : Arv Z Z.heap bv kv .byte (5 : Int32) [(.int (118 : Int32)), (.int (97 : Int32)), (.int (108 : Int32)), (.int (105 : Int32)), (.int (100 : Int32))] (.int (0 : Int32))) (E_ei : Exa Z Z.heap ei "com/example/umpire/umpire/xsts/Validity") (F_ei : Fld Z Z.heap ei "com/example/umpire/umpire/xsts/Validity" "word" "Ljava/lang/String;" (.ref si)) (E_si : Exa Z Z.heap si "java/lang/String") (C_si : Fld Z Z.heap si "java/lang/String" "coder" "B" (.int (0 : Int32))) (F_si : Fld Z Z.heap si "java/lang/String" "value" "[B" (.ref bi)) (V_bi : Arv Z Z.heap bi ki .byte (7 : Int32) [(.int (105 : Int32)), (.int (110 : Int32)), (.int (118 : Int32)), (.int (97 : Int32)), (.int (108 : Int32)), (.int (105 : Int32)), (.int (100 : Int32))] (.int (0 : Int32))) (E_oe : Exa Z Z.heap oe "java/util/Optional") (F_oe : Fld Z Z.heap oe "java/util/Optional" "value" "Ljava/lang/Object;" .null) :
    MetFree l (⟨"com/example/umpire/umpire/xsts/Validity", "of", "(Ljava/lang/String;)Ljava/util/Optional;"⟩ : MethodName) (head1 (Jvm.Cond.code (⟨"com/example/umpire/umpire/xsts/Validity", "of", "(Ljava/lang/String;)Ljava/util/Optional;"⟩ : MethodName) prog_52_method_6_code 5 (some (.object "java/util/Optional")) :: ws) ({ frames := 2, cells := 1, slots := 2, locals := 25 } : Room)) (fun a U => a = #[.null] ∧ Z.Warmed39 U.vm ∧ U.heap = h0) (fun _ _ _ _ _ => True) (fun _ U o U' => ∃ v L, o = .returned v ∧ (Q_of0 Z va vk ev ei sv bv kv si bi ki oe ic h0 n0) v U'.heap L ∧ FrameEnd U o U' L ({ frames := 2, cells := 1, slots := 2, locals := 25 } : Room).cells ({ frames := 2, cells := 1, slots := 2, locals := 25 } : Room).slots) := by
  refine MetFree.of_bodySF (plainFor_of_name pn_7) hisR ?_
  intro p e s m args below meth c s₁ Bd hml0 hP hK
  obtain ⟨rfl, hZ, hh⟩ := hP
  have hx := Bd.exec
  have hby := Bd.bytes
  have hW := fun i d (h : tables_1[i]? = some d) => hw d (List.mem_of_getElem? h)
  have hlk : meth.locks = false := BodyLoose.notSynchronized Bd
  have hml : c.maxLocals = 5 := hml0
  have hown : s.vm.findClass "com/example/umpire/umpire/xsts/Validity" = some m.cls := findClass_of_methodNamed Bd.named
  have hnm := (name_of_methodNamed Bd.named Bd.method).1
  have X0 : Stand p l e ({ frames := 2, cells := 1, slots := 2, locals := 25 } : Room) s m #[.null] below meth c s₁ [] 0 0 := Stand.of_body Bd
  have e0 : s₁.heap = h0 := by rw [← hh, Bd.state]; rfl
  have N0 := Fr.nil n0
  show own_Go p e below s (Q_of0 Z va vk ev ei sv bv kv si bi ki oe ic h0 n0) ({ frames := 2, cells := 1, slots := 2, locals := 25 } : Room).cells ({ frames := 2, cells := 1, slots := 2, locals := 25 } : Room).slots s₁ (entryFrame m #[.null] 5)
  refine own_cast (g' := (mkF m 0 #[.val .null, u_, u_, u_, u_] [])) (ef_rm_of0 m ) ?_
  have K0 : Keep h0 h0 [] := Keep.refl _ _
  obtain ⟨_, _, ⟨T4, L4, k4, n4⟩, -, X4, ⟨Lc4, hQ4, lq4, yq4, zq4⟩, st4⟩ := Jvm.LawKit.callS X0 hx (y := (⟨"com/example/umpire/umpire/xsts/Validity", "values", "()[Lcom/example/umpire/umpire/xsts/Validity;"⟩ : MethodName)) hown (mvT hZ (hW 85 _ rfl)) (mvT hZ (hW 86 _ rfl)) (mvT hZ (hW 80 _ rfl)) (mvT hZ (hW 87 _ rfl)) (by decide) (backOf (W := 0) (rm_vls l Z a0 hw [] va vk ev ei h0 n0 Z0 O0 S_vs E_va V_va) hZ (hW 87 _ rfl) (hW 80 _ rfl) (by decide) (by decide)) (g := (mkF m 0 #[.val .null, u_, u_, u_, u_] [])) rfl (by rw [hml]; rfl) (argsL := []) (rest := []) (lenOf pd_14 rfl) rfl (by show 2 * 0 + _ ≤ _; exact Nat.le_of_eq rfl) (hb hby d17_0) (fun _ _ => ⟨rfl, e0, (by decide : 0 + 1 ≤ _), (by decide : 0 + 2 ≤ _)⟩)
  dsimp only [Pt.U, Pt.locs, Pt.cells, Pt.slots] at X4 lq4 yq4 zq4 st4 hQ4
  subst lq4 yq4 zq4
  obtain ⟨nv_1, rfl, Nq4, K2, fz_nv_1, g3⟩ := hQ4
  have N4 := Fr.app N0 Nq4
  have oz_nv_1 : n0 ≤ nv_1 := Nat.le_trans Z0 fz_nv_1
  have fr_nv_1 : h0.size ≤ nv_1 := Nat.le_trans K0.1 fz_nv_1
  have Z2 : n0 ≤ T4.heap.size := (Nat.le_trans Z0 K2.1)
  have O2 : Old Z n0 T4.heap := O0.keep K2 (all0 (P := fun x => n0 ≤ x))
  have K5 : Keep h0 T4.heap [] := K0.trans K2 (all0 (P := fun x => x ∈ [] ∨ h0.size ≤ x))
  refine own_s T4 (mkF m 3 #[.val .null, u_, u_, u_, u_] [.ref nv_1]) st4 ?_
  refine own_s T4 (mkF m 4 #[.val .null, rv nv_1, u_, u_, u_] []) (fun t k => XS.astoreN X4.here hx rfl (hb hby d17_3) rfl rfl (l' := #[.val .null, rv nv_1, u_, u_, u_]) rfl k) ?_
  refine own_s T4 (mkF m 5 #[.val .null, rv nv_1, u_, u_, u_] [.ref nv_1]) (fun t k => XS.aloadN X4.here hx rfl (hb hby d17_4) rfl rfl k) ?_
  obtain ⟨cl6, Ar6, qa6, S6, M6, H6, U6⟩ := id g3
  have ln6 := len_of S6 M6
  refine own_s T4 (mkF m 6 #[.val .null, rv nv_1, u_, u_, u_] [.int 2]) (fun t k => X4.arraylength hx (cell := cl6) Ar6.1 (State.isArrayOf_alike hZ.alike Ar6.2.1) (g := (mkF m 5 #[.val .null, rv nv_1, u_, u_, u_] [.ref nv_1])) rfl rfl (hb hby d17_5) t (by rw [ln6]; exact k)) ?_
  refine own_s T4 (mkF m 7 #[.val .null, rv nv_1, iv 2, u_, u_] []) (fun t k => XS.istoreN X4.here hx rfl (hb hby d17_6) rfl (l' := #[.val .null, rv nv_1, iv 2, u_, u_]) rfl k) ?_
  refine own_s T4 (mkF m 8 #[.val .null, rv nv_1, iv 2, u_, u_] [.int 0]) (fun t k => XS.iconst X4.here hx rfl (hb hby d17_7) k) ?_
  refine own_s T4 (mkF m 9 #[.val .null, rv nv_1, iv 2, iv 0, u_] []) (fun t k => XS.istoreN X4.here hx rfl (hb hby d17_8) rfl (l' := #[.val .null, rv nv_1, iv 2, iv 0, u_]) rfl k) ?_
  refine own_s T4 (mkF m 10 #[.val .null, rv nv_1, iv 2, iv 0, u_] [.int 0]) (fun t k => XS.iloadN X4.here hx rfl (hb hby d17_9) rfl k) ?_
  refine own_s T4 (mkF m 11 #[.val .null, rv nv_1, iv 2, iv 0, u_] [.int 2, .int 0]) (fun t k => XS.iloadN X4.here hx rfl (hb hby d17_10) rfl k) ?_
  refine own_s T4 (mkF m 14 #[.val .null, rv nv_1, iv 2, iv 0, u_] []) (fun t k => XS.icmpNo X4.here hx rfl (hb hby d17_11) rfl (tlt (by decide : ((0 : Int32) < (2 : Int32)))).2.1 k) ?_
  refine own_s T4 (mkF m 15 #[.val .null, rv nv_1, iv 2, iv 0, u_] [.ref nv_1]) (fun t k => XS.aloadN X4.here hx rfl (hb hby d17_14) rfl rfl k) ?_
  refine own_s T4 (mkF m 16 #[.val .null, rv nv_1, iv 2, iv 0, u_] [.int 0, .ref nv_1]) (fun t k => XS.iloadN X4.here hx rfl (hb hby d17_15) rfl k) ?_
  obtain ⟨cl7, Ar7, qa7, S7, M7, H7, U7⟩ := id g3
  have hi7 := inb_of S7 (j := (0 : Int32)) ⟨by decide, by decide⟩
  have hat7 := H7.at hi7 (v := (.ref ev)) rfl
  refine own_s T4 (mkF m 17 #[.val .null, rv nv_1, iv 2, iv 0, u_] [.ref ev]) (fun t k => X4.aaload hx (j := (0 : Int32)) (v := (.ref ev)) Ar7.1 (State.isArrayOf_alike hZ.alike Ar7.2.1) rfl Ar7.2.2 hi7 hat7 (g := (mkF m 16 #[.val .null, rv nv_1, iv 2, iv 0, u_] [.int 0, .ref nv_1])) rfl rfl (hb hby d17_16) t k) ?_
  refine own_s T4 (mkF m 19 #[.val .null, rv nv_1, iv 2, iv 0, rv ev] []) (fun t k => XS.astore X4.here hx rfl (hb hby d17_17) rfl rfl (l' := #[.val .null, rv nv_1, iv 2, iv 0, rv ev]) rfl k) ?_
  refine own_s T4 (mkF m 21 #[.val .null, rv nv_1, iv 2, iv 0, rv ev] [.ref ev]) (fun t k => XS.aload X4.here hx rfl (hb hby d17_19) rfl rfl k) ?_
  obtain ⟨T8, X8, e8, st8⟩ := getF X4 hx hZ hown (host := "") (Or.inl (hW 101 _ rfl)) Via.refl rfl (F_ev.ext O2.2) (g := (mkF m 21 #[.val .null, rv nv_1, iv 2, iv 0, rv ev] [.ref ev])) rfl rfl (hb hby d17_21)
  refine own_s T8 (mkF m 24 #[.val .null, rv nv_1, iv 2, iv 0, rv ev] [.ref sv]) st8 ?_
  refine own_s T8 (mkF m 25 #[.val .null, rv nv_1, iv 2, iv 0, rv ev] [.null, .ref sv]) (fun t k => XS.aloadN X8.here hx rfl (hb hby d17_24) rfl rfl k) ?_
  obtain ⟨cq12, kq12, q12a, q12b, q12c⟩ := isOf hZ e8 (E_sv.ext O2.2)
  obtain ⟨_, _, ⟨T11, L11, k11, n11⟩, -, X11, ⟨Lc11, hQ11, lq11, yq11, zq11⟩, st11⟩ := X8.virtualBack hx (y := (⟨"java/lang/String", "equals", "(Ljava/lang/Object;)Z"⟩ : MethodName)) (z := (⟨"java/lang/String", "equals", "(Ljava/lang/Object;)Z"⟩ : MethodName)) hown (mvT hZ (hW 103 _ rfl)) (mvT hZ (hW 71 _ rfl)) (notFace_of_selects (args := #[]) (mvT hZ (hW 73 _ rfl))) (mvT hZ (hW 73 _ rfl)) (mvT hZ (hW 72 _ rfl)) (by decide) (backOf (W := 0) (rm_seqN l Z a0 hw [] sv T4.heap n0 Z2 ) hZ (hW 74 _ rfl) (hW 1 _ rfl) (by decide) (by decide)) q12a q12c (g := (mkF m 25 #[.val .null, rv nv_1, iv 2, iv 0, rv ev] [.null, .ref sv])) rfl (by rw [hml]; rfl) (Steps.refl _) (argsL := [.null]) (rest := []) (lenOf pd_15 rfl) rfl (by show 2 * 0 + _ ≤ _; exact Nat.le_of_eq rfl) (hb hby d17_25) (fun _ _ => ⟨rfl, e8, (by decide : 1 + 0 ≤ _), (by decide : 2 + 0 ≤ _)⟩)
  dsimp only [Pt.U, Pt.locs, Pt.cells, Pt.slots] at X11 lq11 yq11 zq11 st11 hQ11
  subst lq11 yq11 zq11
  obtain ⟨rfl, Nq11, eq10⟩ := hQ11
  have N11 := Fr.app N4 Nq11
  refine own_tr (T' := T11) (g' := (mkF m 28 #[.val .null, rv nv_1, iv 2, iv 0, rv ev] [.int 0])) st11 ?_
  refine own_s T11 (mkF m 37 #[.val .null, rv nv_1, iv 2, iv 0, rv ev] []) (fun t k => XS.ifYes X11.here hx rfl (pc0 := 28) (pc' := 37) rfl (hb hby d17_28) rfl ((if0 _ _).trans (teq (by decide : ((0 : Int32) = (0 : Int32)))).1) (by decide) (by decide) k) ?_
  refine own_s T11 (mkF m 40 #[.val .null, rv nv_1, iv 2, iv 1, rv ev] []) (fun t k => XS.iinc X11.here hx rfl (hb hby d17_37) rfl (l' := #[.val .null, rv nv_1, iv 2, iv 1, rv ev]) rfl k) ?_
  refine own_s T11 (mkF m 9 #[.val .null, rv nv_1, iv 2, iv 1, rv ev] []) (fun t k => XS.goto X11.here hx rfl (pc0 := 40) (pc' := 9) rfl (hb hby d17_40) (by decide) (by decide) k) ?_
  refine own_s T11 (mkF m 10 #[.val .null, rv nv_1, iv 2, iv 1, rv ev] [.int 1]) (fun t k => XS.iloadN X11.here hx rfl (hb hby d17_9) rfl k) ?_
  refine own_s T11 (mkF m 11 #[.val .null, rv nv_1, iv 2, iv 1, rv ev] [.int 2, .int 1]) (fun t k => XS.iloadN X11.here hx rfl (hb hby d17_10) rfl k) ?_
  refine own_s T11 (mkF m 14 #[.val .null, rv nv_1, iv 2, iv 1, rv ev] []) (fun t k => XS.icmpNo X11.here hx rfl (hb hby d17_11) rfl (tlt (by decide : ((1 : Int32) < (2 : Int32)))).2.1 k) ?_
  refine own_s T11 (mkF m 15 #[.val .null, rv nv_1, iv 2, iv 1, rv ev] [.ref nv_1]) (fun t k => XS.aloadN X11.here hx rfl (hb hby d17_14) rfl rfl k) ?_
  refine own_s T11 (mkF m 16 #[.val .null, rv nv_1, iv 2, iv 1, rv ev] [.int 1, .ref nv_1]) (fun t k => XS.iloadN X11.here hx rfl (hb hby d17_15) rfl k) ?_
  obtain ⟨cl13, Ar13, qa13, S13, M13, H13, U13⟩ := id g3
  have hi13 := inb_of S13 (j := (1 : Int32)) ⟨by decide, by decide⟩
  have hat13 := H13.at hi13 (v := (.ref ei)) rfl
  refine own_s T11 (mkF m 17 #[.val .null, rv nv_1, iv 2, iv 1, rv ev] [.ref ei]) (fun t k => X11.aaload hx (j := (1 : Int32)) (v := (.ref ei)) (by rw [eq10]; exact Ar13.1) (State.isArrayOf_alike hZ.alike Ar13.2.1) rfl Ar13.2.2 hi13 hat13 (g := (mkF m 16 #[.val .null, rv nv_1, iv 2, iv 1, rv ev] [.int 1, .ref nv_1])) rfl rfl (hb hby d17_16) t k) ?_
  refine own_s T11 (mkF m 19 #[.val .null, rv nv_1, iv 2, iv 1, rv ei] []) (fun t k => XS.astore X11.here hx rfl (hb hby d17_17) rfl rfl (l' := #[.val .null, rv nv_1, iv 2, iv 1, rv ei]) rfl k) ?_
  refine own_s T11 (mkF m 21 #[.val .null, rv nv_1, iv 2, iv 1, rv ei] [.ref ei]) (fun t k => XS.aload X11.here hx rfl (hb hby d17_19) rfl rfl k) ?_
  obtain ⟨T14, X14, e14, st14⟩ := getF X11 hx hZ hown (host := "") (Or.inl (hW 101 _ rfl)) Via.refl eq10 (F_ei.ext O2.2) (g := (mkF m 21 #[.val .null, rv nv_1, iv 2, iv 1, rv ei] [.ref ei])) rfl rfl (hb hby d17_21)
  refine own_s T14 (mkF m 24 #[.val .null, rv nv_1, iv 2, iv 1, rv ei] [.ref si]) st14 ?_
  refine own_s T14 (mkF m 25 #[.val .null, rv nv_1, iv 2, iv 1, rv ei] [.null, .ref si]) (fun t k => XS.aloadN X14.here hx rfl (hb hby d17_24) rfl rfl k) ?_
  obtain ⟨cq18, kq18, q18a, q18b, q18c⟩ := isOf hZ e14 (E_si.ext O2.2)
  obtain ⟨_, _, ⟨T17, L17, k17, n17⟩, -, X17, ⟨Lc17, hQ17, lq17, yq17, zq17⟩, st17⟩ := X14.virtualBack hx (y := (⟨"java/lang/String", "equals", "(Ljava/lang/Object;)Z"⟩ : MethodName)) (z := (⟨"java/lang/String", "equals", "(Ljava/lang/Object;)Z"⟩ : MethodName)) hown (mvT hZ (hW 103 _ rfl)) (mvT hZ (hW 71 _ rfl)) (notFace_of_selects (args := #[]) (mvT hZ (hW 73 _ rfl))) (mvT hZ (hW 73 _ rfl)) (mvT hZ (hW 72 _ rfl)) (by decide) (backOf (W := 0) (rm_seqN l Z a0 hw [] si T4.heap n0 Z2 ) hZ (hW 74 _ rfl) (hW 1 _ rfl) (by decide) (by decide)) q18a q18c (g := (mkF m 25 #[.val .null, rv nv_1, iv 2, iv 1, rv ei] [.null, .ref si])) rfl (by rw [hml]; rfl) (Steps.refl _) (argsL := [.null]) (rest := []) (lenOf pd_15 rfl) rfl (by show 2 * 0 + _ ≤ _; exact Nat.le_of_eq rfl) (hb hby d17_25) (fun _ _ => ⟨rfl, e14, (by decide : 1 + 0 ≤ _), (by decide : 2 + 0 ≤ _)⟩)
  dsimp only [Pt.U, Pt.locs, Pt.cells, Pt.slots] at X17 lq17 yq17 zq17 st17 hQ17
  subst lq17 yq17 zq17
  obtain ⟨rfl, Nq17, eq16⟩ := hQ17
  have N17 := Fr.app N11 Nq17
  refine own_tr (T' := T17) (g' := (mkF m 28 #[.val .null, rv nv_1, iv 2, iv 1, rv ei] [.int 0])) st17 ?_
  refine own_s T17 (mkF m 37 #[.val .null, rv nv_1, iv 2, iv 1, rv ei] []) (fun t k => XS.ifYes X17.here hx rfl (pc0 := 28) (pc' := 37) rfl (hb hby d17_28) rfl ((if0 _ _).trans (teq (by decide : ((0 : Int32) = (0 : Int32)))).1) (by decide) (by decide) k) ?_
  refine own_s T17 (mkF m 40 #[.val .null, rv nv_1, iv 2, iv 2, rv ei] []) (fun t k => XS.iinc X17.here hx rfl (hb hby d17_37) rfl (l' := #[.val .null, rv nv_1, iv 2, iv 2, rv ei]) rfl k) ?_
  refine own_s T17 (mkF m 9 #[.val .null, rv nv_1, iv 2, iv 2, rv ei] []) (fun t k => XS.goto X17.here hx rfl (pc0 := 40) (pc' := 9) rfl (hb hby d17_40) (by decide) (by decide) k) ?_
  refine own_s T17 (mkF m 10 #[.val .null, rv nv_1, iv 2, iv 2, rv ei] [.int 2]) (fun t k => XS.iloadN X17.here hx rfl (hb hby d17_9) rfl k) ?_
  refine own_s T17 (mkF m 11 #[.val .null, rv nv_1, iv 2, iv 2, rv ei] [.int 2, .int 2]) (fun t k => XS.iloadN X17.here hx rfl (hb hby d17_10) rfl k) ?_
  refine own_s T17 (mkF m 43 #[.val .null, rv nv_1, iv 2, iv 2, rv ei] []) (fun t k => XS.icmpYes X17.here hx rfl (pc0 := 11) (pc' := 43) rfl (hb hby d17_11) rfl (flt (by decide : ¬ ((2 : Int32) < (2 : Int32)))).2.1 (by decide) (by decide) k) ?_
  obtain ⟨_, _, ⟨T21, L21, k21, n21⟩, -, X21, ⟨Lc21, hQ21, lq21, yq21, zq21⟩, st21⟩ := Jvm.LawKit.callS X17 hx (y := (⟨"java/util/Optional", "empty", "()Ljava/util/Optional;"⟩ : MethodName)) hown (mvT hZ (hW 129 _ rfl)) (mvT hZ (hW 130 _ rfl)) (mvT hZ (hW 106 _ rfl)) (mvT hZ (hW 131 _ rfl)) (by decide) (backOf (W := 0) (rm_oem l Z a0 hw [] oe T4.heap n0 Z2 O2 S_oe) hZ (hW 131 _ rfl) (hW 106 _ rfl) (by decide) (by decide)) (g := (mkF m 43 #[.val .null, rv nv_1, iv 2, iv 2, rv ei] [])) rfl (by rw [hml]; rfl) (argsL := []) (rest := []) (lenOf pd_17 rfl) rfl (by show 2 * 0 + _ ≤ _; exact Nat.le_of_eq rfl) (hb hby d17_43) (fun _ _ => ⟨rfl, eq16, (by decide : 1 + 0 ≤ _), (by decide : 2 + 0 ≤ _)⟩)
  dsimp only [Pt.U, Pt.locs, Pt.cells, Pt.slots] at X21 lq21 yq21 zq21 st21 hQ21
  subst lq21 yq21 zq21
  obtain ⟨rfl, Nq21, eq20⟩ := hQ21
  have N21 := Fr.app N17 Nq21
  refine own_s T21 (mkF m 46 #[.val .null, rv nv_1, iv 2, iv 2, rv ei] [.ref oe]) st21 ?_
  refine own_rA X21 hx hlk Bd.returns rfl (w := (.ref oe)) rfl (hb hby d17_46) ?_ (by decide) (by decide)
  rw [eq20]
  exact ⟨rfl, N21, K5⟩

section OwnW
variable {p : Program} {l : Launch} {e : Env} {R : Room} {s : State} {m : MethodId} {args : Array Value} {below : List Frame} {meth : Method} {c : Code} {T : State} {locs : List Loc} {cells slots : Nat} {Z : State} {EL : List (String × Nat)} {vm0 : Vm} {a0 : Array Value}
def own_GoW (Z : State) (EL : List (String × Nat)) (p : Program) (e : Env) (below : List Frame) (s : State) (Q : Option Value → Heap → List Loc → Prop) (rc rs : Nat) (T : State) (g : JFrame) : Prop :=
  ∃ s₂ o, Steps p.tables e below (T.setTop g) s₂ ∧ s₂.status = .running ∧ Ended s₂ below o ∧ ∃ v L, o = .returned v ∧ Q v s₂.heap L ∧ CHr Z EL s.vm s.heap s₂.vm s₂.heap ∧ ReturnedEndW s o s₂ L rc rs
variable {Q : Option Value → Heap → List Loc → Prop} {rc rs : Nat} {T' : State} {g g' : JFrame}
theorem own_sW (T' : State) (g' : JFrame) (st : ∀ target, Steps p.tables e below (T'.setTop g') target → Steps p.tables e below (T.setTop g) target) (k : own_GoW Z EL p e below s Q rc rs T' g') : own_GoW Z EL p e below s Q rc rs T g := by
  obtain ⟨s₂, o, h1, h2⟩ := k
  exact ⟨s₂, o, st _ h1, h2⟩
theorem own_trW (st : Steps p.tables e below (T.setTop g) (T'.setTop g')) (k : own_GoW Z EL p e below s Q rc rs T' g') : own_GoW Z EL p e below s Q rc rs T g := by
  obtain ⟨s₂, o, h1, h2⟩ := k
  exact ⟨s₂, o, st.trans h1, h2⟩
theorem own_castW (q : g = g') (k : own_GoW Z EL p e below s Q rc rs T g') : own_GoW Z EL p e below s Q rc rs T g := q ▸ k
theorem own_doneW (X : Stand p l e R (s.setVm vm0) m args below meth c T locs cells slots) (hEL : EW Z a0 EL) (hZ : Z.Warmed39 vm0) {k0 : Nat} (S : s.Since vm0 k0) (hk : k0 ≤ T.heap.size) (C : CHr Z EL s.vm s.heap vm0 T.heap) {v : Option Value} (hv : meth.sig.returnType = none → v = none) (hlk : meth.locks = false)
    (st : ∀ fs, (∀ (f : JFrame) (acts : List Action), f.method = m → f.locked = none → f.entered = [] → (doReturn e (T.setTop f) acts v).1 = T.setFrames fs) → Steps p.tables e below (T.setTop g) (T.setFrames fs))
    (hQ : Q v T.heap locs) (hc : cells ≤ rc) (hs : slots ≤ rs) : own_GoW Z EL p e below s Q rc rs T g := by
  obtain ⟨fs, hr, hrun, hended, hW⟩ := X.leaveW S hk (v := v) hv hlk
  exact ⟨_, _, st fs hr, hrun, hended, v, locs, rfl, hQ, C.trans (show CHr Z EL vm0 T.heap T.vm T.heap from CHv.at X hZ hEL C.1), hW.1, hW.2.1, hW.2.2.1, hW.2.2.2.mono hc hs⟩
theorem own_rNW (X : Stand p l e R (s.setVm vm0) m args below meth c T locs cells slots) (hx : p.tables.exec = Jvm.exec) (hEL : EW Z a0 EL) (hZ : Z.Warmed39 vm0) {k0 : Nat} (S : s.Since vm0 k0) (hk : k0 ≤ T.heap.size) (C : CHr Z EL s.vm s.heap vm0 T.heap) (hlk : meth.locks = false) {t : FieldType} (hret : meth.sig.returnType = some t) (ht : t = .boolean ∨ t = .byte ∨ t = .char ∨ t = .short) {pc : Nat} {Ls : Array Slot} {z : Int32} {rest : List Value}
    (hd : decode c.code pc = .ok (.ireturn, 1)) (hQ : Q (some (.int (nar t z))) T.heap locs) (hc : cells ≤ rc) (hs : slots ≤ rs) : own_GoW Z EL p e below s Q rc rs T (mkF m pc Ls (.int z :: rest)) :=
  own_doneW X hEL hZ S hk C (fun h => by rw [hret] at h; cases h) hlk (fun fs hr => retN X hx hret ht hd hr) hQ hc hs
theorem own_rVW (X : Stand p l e R (s.setVm vm0) m args below meth c T locs cells slots) (hx : p.tables.exec = Jvm.exec) (hEL : EW Z a0 EL) (hZ : Z.Warmed39 vm0) {k0 : Nat} (S : s.Since vm0 k0) (hk : k0 ≤ T.heap.size) (C : CHr Z EL s.vm s.heap vm0 T.heap) (hlk : meth.locks = false) (hret : meth.sig.returnType = none) {pc : Nat} {Ls : Array Slot}
    (hd : decode c.code pc = .ok (.return_, 1)) (hQ : Q none T.heap locs) (hc : cells ≤ rc) (hs : slots ≤ rs) : own_GoW Z EL p e below s Q rc rs T (mkF m pc Ls []) :=
  own_doneW X hEL hZ S hk C (fun _ => rfl) hlk (fun fs hr => X.returnOut hx hret hd hr) hQ hc hs
theorem own_backW {h : Heap} {x : Addr} {y : MethodName} {bytes : ByteArray} {maxL : Nat} {ret : Option FieldType} {rm : Room} {len W : Nat} {as' : Array Value}
    (hM : MetFree l y (head1 [Cond.code y bytes maxL ret] rm) (fun a U => a = as' ∧ Z.Warmed39 U.vm ∧ U.heap = h ∧ CHv Z EL U.vm h ∧ Safe Z EL U.vm h x) (fun _ _ _ _ _ => True) (fun _ U o U' => ∃ v L, o = .returned v ∧ Q v U'.heap L ∧ CHr Z EL U.vm U.heap U'.vm U'.heap ∧ ReturnedEndW U o U' L rm.cells rm.slots))
    (hZ : Z.Warmed39 vm0) (wc : (Cond.code y bytes maxL ret).before a0 Z = true) (wz : (Cond.initialized y.cls).before a0 Z = true) (hf : rm.frames + 1 ≤ R.frames) (hl : W + (maxL + 11) + rm.locals ≤ R.locals) (hEL : EW Z a0 EL) (H : CHv Z EL vm0 h) (hx : x < h.size) (S : Safe Z EL vm0 h x) :
    BackS l R p e below (s.setVm vm0) args y len W (fun A a => a = as' ∧ A.U.heap = h ∧ A.cells + rm.cells ≤ R.cells ∧ A.slots + rm.slots ≤ R.slots)
      (fun A _ v B => ∃ L, Q v B.U.heap L ∧ B.locs = A.locs ++ L ∧ B.cells = A.cells + rm.cells ∧ B.slots = A.slots + rm.slots ∧ CHr Z EL vm0 h B.U.vm B.U.heap) :=
  BackS.of_freeW (bytes := bytes) (maxL := maxL) (ret := ret) (E := fun _ first o t L k n => k = rm.cells ∧ n = rm.slots ∧ (∃ v, o = .returned v ∧ Q v t.heap L) ∧ CHr Z EL first.vm first.heap t.vm t.heap) hM hf hl
    (fun m meth c A a Y hp => have hU : Z.Warmed39 A.U.vm := wtrans (s := s.setVm vm0) hZ Y.warmed
      ⟨by show (Cond.and _ .tt).before a A.U = true; rw [Cond.before_and, mv hU wc]; rfl, mv hU wc, mv hU wz, hp.2.2.1, hp.2.2.2⟩)
    (fun m meth c A a g mk Y hp => ⟨hp.1, wtrans (s := s.setVm vm0) hZ Y.warmed, hp.2.1, (CHv.at Y hZ hEL H).1, (CHv.at Y hZ hEL H).safe hx S⟩) (fun _ _ _ _ _ _ _ _ _ => trivial)
    (fun _ _ _ _ ⟨v, L, h1, h2, h3, h4⟩ => ⟨L, _, _, h4, rfl, rfl, ⟨v, h1, h2⟩, h3⟩)
    (fun m meth c A a g mk v t L k n Y hp _ _ ⟨e1, e2, ⟨v', e3, e4⟩, e5⟩ => by
      cases e3; subst e1 e2
      refine ⟨L, e4, rfl, rfl, rfl, (CHv.at Y hZ hEL H).trans ?_⟩
      rw [← hp.2.1]; exact e5)
end OwnW

def own_EL : List (String × Nat) := consts_1
theorem own_wS {a0 : Array Value} {Z : State} (hw : ∀ d ∈ tables_1, d.before a0 Z = true) : ∀ d ∈ Bundle.stringAtoms, d.before a0 Z = true := fun d hd => by
  simp only [Bundle.stringAtoms, List.mem_cons, List.not_mem_nil, or_false] at hd
  rcases hd with rfl | rfl | rfl | rfl | rfl | rfl | rfl
  · exact (hw _ (List.mem_of_getElem? (i := 1) rfl))
  · exact (hw _ (List.mem_of_getElem? (i := 2) rfl))
  · exact (hw _ (List.mem_of_getElem? (i := 3) rfl))
  · exact (hw _ (List.mem_of_getElem? (i := 4) rfl))
  · exact (hw _ (List.mem_of_getElem? (i := 5) rfl))
  · exact (hw _ (List.mem_of_getElem? (i := 6) rfl))
  · exact (hw _ (List.mem_of_getElem? (i := 7) rfl))
theorem own_EW {a0 : Array Value} {Z : State} (hw : ∀ d ∈ tables_1, d.before a0 Z = true) : EW Z a0 own_EL := (EW.cons (hw _ (List.mem_of_getElem? (i := 0) rfl)) (by decide) (EW.cons (hw _ (List.mem_of_getElem? (i := 128) rfl)) (by decide) (EW.cons (hw _ (List.mem_of_getElem? (i := 135) rfl)) (by decide) EW.nil)))

def Q_s4w (Z : State) (wa : Addr) (sb : Addr) (u1 : Value) (u2 : Value) (h0 : Heap) (n0 : Nat) (v : Option Value) (h : Heap) (L : List Loc) : Prop := ∃ (b : Addr) (kb : ClassId), v = none ∧ Fr n0 L ∧ Keep h0 h [wa] ∧ Exa Z h wa "java/lang/String" ∧ Fld Z h wa "java/lang/String" "value" "[B" (.ref b) ∧ Fld Z h wa "java/lang/String" "coder" "B" (.int (0 : Int32)) ∧ Arv Z h b kb .byte (0 : Int32) [] (.int (0 : Int32))
theorem ef_rm_s4w (m : MethodId) (x0 : Addr) (x1 : Addr) (x2 : Int32) (x3 : Int32) : entryFrame m #[(.ref x0), (.ref x1), (.int x2), (.int x3), .null] 6 = mkF m 0 #[.val (.ref x0), .val (.ref x1), .val (.int x2), .val (.int x3), .val .null, .unset] [] := by first | (simp [entryFrame, mkF, argsToLocals, Value.category]; done) | rfl | (simp [entryFrame, mkF, argsToLocals, Value.category] <;> rfl)
theorem d10_8 : decode jdk_42_method_149_code 8 = .ok (.aload_n 0, 1) := by decide +kernel
theorem d10_9 : decode jdk_42_method_149_code 9 = .ok (.ldc 7, 2) := by decide +kernel
theorem d10_11 : decode jdk_42_method_149_code 11 = .ok (.getfield 9, 3) := by decide +kernel
theorem d10_14 : decode jdk_42_method_149_code 14 = .ok (.putfield 9, 3) := by decide +kernel
theorem d10_17 : decode jdk_42_method_149_code 17 = .ok (.aload_n 0, 1) := by decide +kernel
theorem d10_18 : decode jdk_42_method_149_code 18 = .ok (.ldc 7, 2) := by decide +kernel
theorem d10_20 : decode jdk_42_method_149_code 20 = .ok (.getfield 15, 3) := by decide +kernel
theorem d10_23 : decode jdk_42_method_149_code 23 = .ok (.putfield 15, 3) := by decide +kernel
theorem d10_26 : decode jdk_42_method_149_code 26 = .ok (.return_, 1) := by decide +kernel
set_option maxRecDepth 65536 in
set_option maxHeartbeats 40000000 in
theorem rm_s4w (l : Launch) (Z : State) (a0 : Array Value) (hw : ∀ d ∈ tables_1, d.before a0 Z = true) (ws : List Jvm.Cond) (wa : Addr) (sb : Addr) (u1 : Value) (u2 : Value) (h0 : Heap) (n0 : Nat) (Z0 : n0 ≤ h0.size) (F_0 : Exa Z h0 wa "java/lang/String") (F_1 : Fld Z h0 wa "java/lang/String" "value" "[B" u1) (F_2 : Fld Z h0 wa "java/lang/String" "coder" "B" u2) (o_wa : n0 ≤ wa) :
    MetFree l (⟨"java/lang/String", "<init>", "([CIILjava/lang/Void;)V"⟩ : MethodName) (head1 (Jvm.Cond.code (⟨"java/lang/String", "<init>", "([CIILjava/lang/Void;)V"⟩ : MethodName) jdk_42_method_149_code 6 none :: ws) ({ frames := 1, cells := 4, slots := 8, locals := 12 } : Room)) (fun a U => a = #[(.ref wa), (.ref sb), (.int (0 : Int32)), (.int (0 : Int32)), .null] ∧ Z.Warmed39 U.vm ∧ U.heap = h0 ∧ CHv Z own_EL U.vm h0 ∧ Safe Z own_EL U.vm h0 wa) (fun _ _ _ _ _ => True) (fun _ U o U' => ∃ v L, o = .returned v ∧ (Q_s4w Z wa sb u1 u2 h0 n0) v U'.heap L ∧ CHr Z own_EL U.vm U.heap U'.vm U'.heap ∧ ReturnedEndW U o U' L ({ frames := 1, cells := 4, slots := 8, locals := 12 } : Room).cells ({ frames := 1, cells := 4, slots := 8, locals := 12 } : Room).slots) := by
  refine MetFree.of_bodySF (plainFor_of_name pn_0) hisR ?_
  intro p e s m args below meth c s₁ Bd hml0 hP hK
  obtain ⟨rfl, hZ, hh, hCH, sfi_wa⟩ := hP
  have hEL := own_EW hw
  have S0 : s.Since s.vm s.heap.size := (State.WarmedH.refl s).since _
  have J0 : s.heap.size ≤ h0.size := by rw [hh]; exact Nat.le_refl _
  have C0 : CHr Z own_EL s.vm s.heap s.vm h0 := by rw [hh]; exact CHr.refl hCH
  have hx := Bd.exec
  have hby := Bd.bytes
  have hW := fun i d (h : tables_1[i]? = some d) => hw d (List.mem_of_getElem? h)
  have hlk : meth.locks = false := BodyLoose.notSynchronized Bd
  have hml : c.maxLocals = 6 := hml0
  have hown : s.vm.findClass "java/lang/String" = some m.cls := findClass_of_methodNamed Bd.named
  have hnm := (name_of_methodNamed Bd.named Bd.method).1
  have X0 : Stand p l e ({ frames := 1, cells := 4, slots := 8, locals := 12 } : Room) (s.setVm s.vm) m #[(.ref wa), (.ref sb), (.int (0 : Int32)), (.int (0 : Int32)), .null] below meth c s₁ [] 0 0 := Stand.of_body Bd
  have e0 : s₁.heap = h0 := by rw [← hh, Bd.state]; rfl
  have N0 := Fr.nil n0
  show own_GoW Z own_EL p e below s (Q_s4w Z wa sb u1 u2 h0 n0) ({ frames := 1, cells := 4, slots := 8, locals := 12 } : Room).cells ({ frames := 1, cells := 4, slots := 8, locals := 12 } : Room).slots s₁ (entryFrame m #[(.ref wa), (.ref sb), (.int (0 : Int32)), (.int (0 : Int32)), .null] 6)
  refine own_castW (g' := (mkF m 0 #[rv wa, rv sb, iv 0, iv 0, .val .null, u_] [])) (ef_rm_s4w m wa sb (0 : Int32) (0 : Int32)) ?_
  have K0 : Keep h0 h0 [wa] := Keep.refl _ _
  refine own_sW s₁ (mkF m 1 #[rv wa, rv sb, iv 0, iv 0, .val .null, u_] [.ref wa]) (fun t k => XS.aloadN X0.here hx rfl (hb hby d10_0) rfl rfl k) ?_
  obtain ⟨T1, X1, e1, st1⟩ := initO X0 hx hZ hown (hW 57 _ rfl) (hW 58 _ rfl) (hW 59 _ rfl) e0 (g := (mkF m 1 #[rv wa, rv sb, iv 0, iv 0, .val .null, u_] [.ref wa])) rfl (by rw [hml]; rfl) rfl (hb hby d10_1) (by decide) (W := 0) (by show 2 * 0 + _ ≤ _; exact Nat.le_of_eq rfl) (by decide)
  refine own_sW T1 (mkF m 4 #[rv wa, rv sb, iv 0, iv 0, .val .null, u_] []) st1 ?_
  refine own_sW T1 (mkF m 5 #[rv wa, rv sb, iv 0, iv 0, .val .null, u_] [.int 0]) (fun t k => XS.iloadN X1.here hx rfl (hb hby d10_4) rfl k) ?_
  refine own_sW T1 (mkF m 8 #[rv wa, rv sb, iv 0, iv 0, .val .null, u_] []) (fun t k => XS.ifNo X1.here hx rfl (hb hby d10_5) rfl ((if0 _ _).trans (teq (by decide : ((0 : Int32) = (0 : Int32)))).2) k) ?_
  refine own_sW T1 (mkF m 9 #[rv wa, rv sb, iv 0, iv 0, .val .null, u_] [.ref wa]) (fun t k => XS.aloadN X1.here hx rfl (hb hby d10_8) rfl rfl k) ?_
  obtain ⟨sa2, T2, h2, k2, sb2, sk2, X2, e2, E2, S2, J2, hZ, hown, A2, F2c, F2v, V2, la2, lb2, R2, -, ns2, st2⟩ := ldcCH X1 hx hZ hown (hW 135 _ rfl) (own_wS hw) e1 S0 J0 hEL (List.mem_of_getElem? (i := 2) rfl) C0.1 (vs := []) (z := (0 : Int32)) ⟨by decide, by first | rfl | decide⟩ (by decide) rfl (g := (mkF m 9 #[rv wa, rv sb, iv 0, iv 0, .val .null, u_] [.ref wa])) rfl (hb hby d10_9) (n := 0) (by decide) (by decide) (by decide : 0 + 2 ≤ _) (by decide : 0 + 4 ≤ _)
  have g3 := F_0.ext E2
  have g4 := F_1.ext E2
  have g5 := F_2.ext E2
  have C2 := C0.trans R2
  have sf2_wa := R2.safe F_0.lt sfi_wa
  have nq2_wa := ns2 _ sf2_wa
  have Z2 : n0 ≤ h2.size := Nat.le_trans Z0 E2.1
  have K6 : Keep h0 h2 [wa] := K0.ext E2
  refine own_sW T2 (mkF m 11 #[rv wa, rv sb, iv 0, iv 0, .val .null, u_] [.ref sa2, .ref wa]) st2 ?_
  obtain ⟨T7, X7, e7, st7⟩ := getF X2 hx hZ hown (host := "") (Or.inl (hW 13 _ rfl)) Via.refl e2 F2v (g := (mkF m 11 #[rv wa, rv sb, iv 0, iv 0, .val .null, u_] [.ref sa2, .ref wa])) rfl rfl (hb hby d10_11)
  refine own_sW T7 (mkF m 14 #[rv wa, rv sb, iv 0, iv 0, .val .null, u_] [.ref sb2, .ref wa]) st7 ?_
  obtain ⟨T8, h8, X8, e8, W8, st8⟩ := putF X7 hx hZ hown (host := "") (Or.inl (hW 13 _ rfl)) Via.refl e7 g4 g3 (Or.inr ⟨(hW 4 _ rfl), rfl, hnm⟩) (hW 2 _ rfl) (ty := .array .byte) (by decide) rfl rfl (g := (mkF m 14 #[rv wa, rv sb, iv 0, iv 0, .val .null, u_] [.ref sb2, .ref wa])) rfl rfl (hb hby d10_14)
  have g9 := g3.wr W8
  have g10 : Fld Z h8 wa "java/lang/String" "value" "[B" (.ref sb2) := g4.same W8
  have g11 := g5.other W8 (Or.inr (slot_ne (Or.inr (hW 5 _ rfl)) (Or.inr (hW 4 _ rfl)) (by decide) (t := .byte) (t' := .array .byte) (by decide) (by decide)))
  have g12 := A2.wr W8
  have g13 := F2c.other W8 (Or.inl (Ne.symm nq2_wa.1))
  have g14 := F2v.other W8 (Or.inl (Ne.symm nq2_wa.1))
  have g15 := V2.other W8 (Ne.symm nq2_wa.2)
  have K16 : Keep h0 h8 [wa] := K6.wr W8 (Or.inl (List.mem_of_getElem? (i := 0) rfl))
  have C17 := C2.trans (CHr.wr W8 sf2_wa C2.1)
  have J17 := Nat.le_trans J2 (Nat.le_of_eq W8.size.symm)
  have sf17_wa := Safe.wr W8 sf2_wa C2.1 sf2_wa
  have N8 := Fr.snoc X8 N0 o_wa
  have Z8 : n0 ≤ h8.size := (Nat.le_trans Z2 (Nat.le_of_eq W8.size.symm))
  refine own_sW T8 (mkF m 17 #[rv wa, rv sb, iv 0, iv 0, .val .null, u_] []) st8 ?_
  refine own_sW T8 (mkF m 18 #[rv wa, rv sb, iv 0, iv 0, .val .null, u_] [.ref wa]) (fun t k => XS.aloadN X8.here hx rfl (hb hby d10_17) rfl rfl k) ?_
  obtain ⟨sa18, T18, h18, k18, sb18, sk18, X18, e18, E18, S18, J18, hZ, hown, A18, F18c, F18v, V18, la18, lb18, R18, -, ns18, st18⟩ := ldcCH X8 hx hZ hown (hW 135 _ rfl) (own_wS hw) e8 S2 J17 hEL (List.mem_of_getElem? (i := 2) rfl) C17.1 (vs := []) (z := (0 : Int32)) ⟨by decide, by first | rfl | decide⟩ (by decide) rfl (g := (mkF m 18 #[rv wa, rv sb, iv 0, iv 0, .val .null, u_] [.ref wa])) rfl (hb hby d10_18) (n := 0) (by decide) (by decide) (by decide : 2 + 2 ≤ _) (by decide : 4 + 4 ≤ _)
  have g19 := g9.ext E18
  have g20 := g10.ext E18
  have g21 := g11.ext E18
  have g22 := g12.ext E18
  have g23 := g13.ext E18
  have g24 := g14.ext E18
  have g25 := g15.ext E18
  have C18 := C17.trans R18
  have sf18_wa := R18.safe g9.lt sf17_wa
  have nq18_wa := ns18 _ sf18_wa
  have Z18 : n0 ≤ h18.size := Nat.le_trans Z8 E18.1
  have K26 : Keep h0 h18 [wa] := K16.ext E18
  refine own_sW T18 (mkF m 20 #[rv wa, rv sb, iv 0, iv 0, .val .null, u_] [.ref sa18, .ref wa]) st18 ?_
  obtain ⟨T27, X27, e27, st27⟩ := getF X18 hx hZ hown (host := "") (Or.inl (hW 20 _ rfl)) Via.refl e18 F18c (g := (mkF m 20 #[rv wa, rv sb, iv 0, iv 0, .val .null, u_] [.ref sa18, .ref wa])) rfl rfl (hb hby d10_20)
  refine own_sW T27 (mkF m 23 #[rv wa, rv sb, iv 0, iv 0, .val .null, u_] [.int 0, .ref wa]) st27 ?_
  obtain ⟨T28, h28, X28, e28, W28, st28⟩ := putF X27 hx hZ hown (host := "") (Or.inl (hW 20 _ rfl)) Via.refl e27 g21 g19 (Or.inr ⟨(hW 5 _ rfl), rfl, hnm⟩) (hW 2 _ rfl) (ty := .byte) (by decide) rfl rfl (g := (mkF m 23 #[rv wa, rv sb, iv 0, iv 0, .val .null, u_] [.int 0, .ref wa])) rfl rfl (hb hby d10_23)
  have g29 := g19.wr W28
  have g30 := g20.other W28 (Or.inr (slot_ne (Or.inr (hW 4 _ rfl)) (Or.inr (hW 5 _ rfl)) (by decide) (t := .array .byte) (t' := .byte) (by decide) (by decide)))
  have g31 : Fld Z h28 wa "java/lang/String" "coder" "B" (.int (0 : Int32)) := g21.same W28
  have g32 := g22.wr W28
  have g33 := g23.other W28 (Or.inl (Ne.symm nq2_wa.1))
  have g34 := g24.other W28 (Or.inl (Ne.symm nq2_wa.1))
  have g35 := g25.other W28 (Ne.symm nq2_wa.2)
  have g36 := A18.wr W28
  have g37 := F18c.other W28 (Or.inl (Ne.symm nq18_wa.1))
  have g38 := F18v.other W28 (Or.inl (Ne.symm nq18_wa.1))
  have g39 := V18.other W28 (Ne.symm nq18_wa.2)
  have K40 : Keep h0 h28 [wa] := K26.wr W28 (Or.inl (List.mem_of_getElem? (i := 0) rfl))
  have C41 := C18.trans (CHr.wr W28 sf18_wa C18.1)
  have J41 := Nat.le_trans J18 (Nat.le_of_eq W28.size.symm)
  have sf41_wa := Safe.wr W28 sf18_wa C18.1 sf18_wa
  have N28 := Fr.snoc X28 N8 o_wa
  have Z28 : n0 ≤ h28.size := (Nat.le_trans Z18 (Nat.le_of_eq W28.size.symm))
  refine own_sW T28 (mkF m 26 #[rv wa, rv sb, iv 0, iv 0, .val .null, u_] []) st28 ?_
  refine own_rVW X28 hx hEL hZ S18 (by rw [e28]; exact J41) (by rw [e28]; exact C41) hlk Bd.returns (hb hby d10_26) ?_ (by decide) (by decide)
  rw [e28]
  exact ⟨sb2, sk2, rfl, N28, K40, g29, g30, g31, g35⟩
def Q_s1w (Z : State) (wa : Addr) (sb : Addr) (sk : ClassId) (u1 : Value) (u2 : Value) (h0 : Heap) (n0 : Nat) (v : Option Value) (h : Heap) (L : List Loc) : Prop := ∃ (b : Addr) (kb : ClassId), v = none ∧ Fr n0 L ∧ Keep h0 h [wa] ∧ Exa Z h wa "java/lang/String" ∧ Fld Z h wa "java/lang/String" "value" "[B" (.ref b) ∧ Fld Z h wa "java/lang/String" "coder" "B" (.int (0 : Int32)) ∧ Arv Z h b kb .byte (0 : Int32) [] (.int (0 : Int32))
theorem ef_rm_s1w (m : MethodId) (x0 : Addr) (x1 : Addr) : entryFrame m #[(.ref x0), (.ref x1)] 2 = mkF m 0 #[.val (.ref x0), .val (.ref x1)] [] := by first | (simp [entryFrame, mkF, argsToLocals, Value.category]; done) | rfl | (simp [entryFrame, mkF, argsToLocals, Value.category] <;> rfl)
set_option maxRecDepth 65536 in
set_option maxHeartbeats 40000000 in
theorem rm_s1w (l : Launch) (Z : State) (a0 : Array Value) (hw : ∀ d ∈ tables_1, d.before a0 Z = true) (ws : List Jvm.Cond) (wa : Addr) (sb : Addr) (sk : ClassId) (u1 : Value) (u2 : Value) (h0 : Heap) (n0 : Nat) (Z0 : n0 ≤ h0.size) (F_0 : Exa Z h0 wa "java/lang/String") (F_1 : Fld Z h0 wa "java/lang/String" "value" "[B" u1) (F_2 : Fld Z h0 wa "java/lang/String" "coder" "B" u2) (F_3 : Arv Z h0 sb sk .char (0 : Int32) [] (.int (0 : Int32))) (o_wa : n0 ≤ wa) (n_wa_sb : wa ≠ sb) :
    MetFree l (⟨"java/lang/String", "<init>", "([C)V"⟩ : MethodName) (head1 (Jvm.Cond.code (⟨"java/lang/String", "<init>", "([C)V"⟩ : MethodName) jdk_42_method_3_code 2 none :: ws) ({ frames := 2, cells := 4, slots := 8, locals := 29 } : Room)) (fun a U => a = #[(.ref wa), (.ref sb)] ∧ Z.Warmed39 U.vm ∧ U.heap = h0 ∧ CHv Z own_EL U.vm h0 ∧ Safe Z own_EL U.vm h0 wa) (fun _ _ _ _ _ => True) (fun _ U o U' => ∃ v L, o = .returned v ∧ (Q_s1w Z wa sb sk u1 u2 h0 n0) v U'.heap L ∧ CHr Z own_EL U.vm U.heap U'.vm U'.heap ∧ ReturnedEndW U o U' L ({ frames := 2, cells := 4, slots := 8, locals := 29 } : Room).cells ({ frames := 2, cells := 4, slots := 8, locals := 29 } : Room).slots) := by
  refine MetFree.of_bodySF (plainFor_of_name pn_0) hisR ?_
  intro p e s m args below meth c s₁ Bd hml0 hP hK
  obtain ⟨rfl, hZ, hh, hCH, sfi_wa⟩ := hP
  have hEL := own_EW hw
  have S0 : s.Since s.vm s.heap.size := (State.WarmedH.refl s).since _
  have J0 : s.heap.size ≤ h0.size := by rw [hh]; exact Nat.le_refl _
  have C0 : CHr Z own_EL s.vm s.heap s.vm h0 := by rw [hh]; exact CHr.refl hCH
  have hx := Bd.exec
  have hby := Bd.bytes
  have hW := fun i d (h : tables_1[i]? = some d) => hw d (List.mem_of_getElem? h)
  have hlk : meth.locks = false := BodyLoose.notSynchronized Bd
  have hml : c.maxLocals = 2 := hml0
  have hown : s.vm.findClass "java/lang/String" = some m.cls := findClass_of_methodNamed Bd.named
  have hnm := (name_of_methodNamed Bd.named Bd.method).1
  have X0 : Stand p l e ({ frames := 2, cells := 4, slots := 8, locals := 29 } : Room) (s.setVm s.vm) m #[(.ref wa), (.ref sb)] below meth c s₁ [] 0 0 := Stand.of_body Bd
  have e0 : s₁.heap = h0 := by rw [← hh, Bd.state]; rfl
  have N0 := Fr.nil n0
  show own_GoW Z own_EL p e below s (Q_s1w Z wa sb sk u1 u2 h0 n0) ({ frames := 2, cells := 4, slots := 8, locals := 29 } : Room).cells ({ frames := 2, cells := 4, slots := 8, locals := 29 } : Room).slots s₁ (entryFrame m #[(.ref wa), (.ref sb)] 2)
  refine own_castW (g' := (mkF m 0 #[rv wa, rv sb] [])) (ef_rm_s1w m wa sb) ?_
  have K0 : Keep h0 h0 [wa] := Keep.refl _ _
  refine own_sW s₁ (mkF m 1 #[rv wa, rv sb] [.ref wa]) (fun t k => XS.aloadN X0.here hx rfl (hb hby d9_0) rfl rfl k) ?_
  refine own_sW s₁ (mkF m 2 #[rv wa, rv sb] [.ref sb, .ref wa]) (fun t k => XS.aloadN X0.here hx rfl (hb hby d9_1) rfl rfl k) ?_
  refine own_sW s₁ (mkF m 3 #[rv wa, rv sb] [.int 0, .ref sb, .ref wa]) (fun t k => XS.iconst X0.here hx rfl (hb hby d9_2) k) ?_
  refine own_sW s₁ (mkF m 4 #[rv wa, rv sb] [.ref sb, .int 0, .ref sb, .ref wa]) (fun t k => XS.aloadN X0.here hx rfl (hb hby d9_3) rfl rfl k) ?_
  obtain ⟨cl1, Ar1, qa1, S1, M1, H1, U1⟩ := id F_3
  have ln1 := len_of S1 M1
  refine own_sW s₁ (mkF m 5 #[rv wa, rv sb] [.int 0, .int 0, .ref sb, .ref wa]) (fun t k => X0.arraylength hx (cell := cl1) (by rw [e0]; exact Ar1.1) (State.isArrayOf_alike hZ.alike Ar1.2.1) (g := (mkF m 4 #[rv wa, rv sb] [.ref sb, .int 0, .ref sb, .ref wa])) rfl rfl (hb hby d9_4) t (by rw [ln1]; exact k)) ?_
  refine own_sW s₁ (mkF m 6 #[rv wa, rv sb] [.null, .int 0, .int 0, .ref sb, .ref wa]) (fun t k => XS.aconstNull X0.here hx rfl (hb hby d9_5) k) ?_
  obtain ⟨_, _, ⟨T8, L8, k8, n8⟩, -, X8, Sn8, -, ⟨Lc8, hQ8, lq8, yq8, zq8, R8⟩, st8⟩ := X0.specialBackS hx (y := (⟨"java/lang/String", "<init>", "([CIILjava/lang/Void;)V"⟩ : MethodName)) rfl hown (mvT hZ (hW 53 _ rfl)) (mvT hZ (hW 54 _ rfl)) (mvT hZ (hW 56 _ rfl)) (by decide) (own_backW (W := 0) (rm_s4w l Z a0 hw [] wa sb u1 u2 h0 n0 Z0 F_0 F_1 F_2 o_wa) hZ (hW 56 _ rfl) (hW 1 _ rfl) (by decide) (by decide) hEL C0.1 F_0.lt sfi_wa) (g := (mkF m 6 #[rv wa, rv sb] [.null, .int 0, .int 0, .ref sb, .ref wa])) rfl (by rw [hml]; rfl) (Steps.refl _) (a := wa) (argsL := [(.ref sb), (.int (0 : Int32)), (.int (0 : Int32)), .null]) (rest := []) (lenOf pd_10 rfl) rfl (by show 2 * 0 + _ ≤ _; exact Nat.le_of_eq rfl) (hb hby d9_6) (fun _ _ => ⟨rfl, e0, (by decide : 0 + 4 ≤ _), (by decide : 0 + 8 ≤ _)⟩)
  dsimp only [Pt.U, Pt.locs, Pt.cells, Pt.slots] at X8 lq8 yq8 zq8 st8 hQ8 Sn8 R8
  subst lq8 yq8 zq8
  obtain ⟨X8, S8⟩ := X8.againW S0 Sn8 (Nat.le_trans J0 R8.2.1)
  have hown : (s.setVm T8.vm).vm.findClass "java/lang/String" = some m.cls := by rw [show (s.setVm T8.vm).vm = T8.vm from rfl, Sn8.1.alike.findClass]; exact hown
  have hZ : Z.Warmed39 (s.setVm T8.vm).vm := State.Warmed39.trans (t := (s.setVm s.vm)) hZ Sn8.1
  have J8 : T8.heap.size ≤ T8.heap.size := Nat.le_refl _
  have C8 := C0.trans R8
  have sf8_wa := R8.safe F_0.lt sfi_wa
  obtain ⟨b_2, kb_2, rfl, Nq8, K3, g4, g5, g6, g7⟩ := hQ8
  have N8 := Fr.app N0 Nq8
  have g9 := F_3.keep K3 (ninS (Ne.symm n_wa_sb) nin0)
  have Z3 : n0 ≤ T8.heap.size := (Nat.le_trans Z0 K3.1)
  have K10 : Keep h0 T8.heap [wa] := K0.trans K3 (allS (P := fun x => x ∈ [wa] ∨ h0.size ≤ x) (Or.inl (List.mem_of_getElem? (i := 0) rfl)) all0)
  refine own_trW (T' := T8) (g' := (mkF m 9 #[rv wa, rv sb] [])) st8 ?_
  refine own_rVW X8 hx hEL hZ S8 J8 C8 hlk Bd.returns (hb hby d9_9) ?_ (by decide) (by decide)
  exact ⟨b_2, kb_2, rfl, N8, K10, g4, g5, g6, g7⟩
def own_N (n : Int32) : Prop := n = 0 ∨ n = 1 ∨ n = 2 ∨ n = 3 ∨ n = 4 ∨ n = 5 ∨ n = 6 ∨ n = 7 ∨ n = 8
theorem own_Nt {n : Int32} {L : List Value} (h : own_tf n L) : own_N n ∧ own_N (n - 1) ∧ own_N (n + 1) := by
  unfold own_N
  rcases h with ⟨rfl, -⟩ | ⟨rfl, -⟩ <;> decide
theorem own_Nr (x : Int32) : own_N ((x &&& (2147483647 : Int32)) % (9 : Int32)) := by
  have h : (x &&& (2147483647 : Int32)).toInt = x.toInt % 2 ^ 31 := Jvm.Kit.i32_mask x 2147483647 (k := 31) (by decide) (by decide)
  have z0 : (0 : Int32).toInt = 0 := by decide
  have z1 : (1 : Int32).toInt = 1 := by decide
  have z2 : (2 : Int32).toInt = 2 := by decide
  have z3 : (3 : Int32).toInt = 3 := by decide
  have z4 : (4 : Int32).toInt = 4 := by decide
  have z5 : (5 : Int32).toInt = 5 := by decide
  have z6 : (6 : Int32).toInt = 6 := by decide
  have z7 : (7 : Int32).toInt = 7 := by decide
  have z8 : (8 : Int32).toInt = 8 := by decide
  have z9 : (9 : Int32).toInt = 9 := by decide
  have hr : ((x &&& (2147483647 : Int32)) % (9 : Int32)).toInt = (x.toInt % 2 ^ 31) % 9 := by
    rw [Jvm.Kit.i32_rem_nonneg (by rw [h]; omega), h, z9]
  unfold own_N
  simp only [← Int32.toInt_inj, hr]
  rw [z0, z1, z2, z3, z4, z5, z6, z7, z8]
  omega
def own_sm (x : Int32) : Prop := 0 ≤ x.toInt ∧ x.toInt ≤ 255
theorem own_sm_c {x : Int32} (h : own_sm x) : own_sm (x.toUInt32.toUInt16.toUInt32.toInt32) := by
  have q := c_i2c x
  unfold own_sm at *
  omega
theorem own_sm_n {x : Int32} (h : own_sm x) : own_sm (nar .char x) := own_sm_c h
theorem own_sm_and (x : Int32) : own_sm (x &&& (255 : Int32)) := by
  have h : (x &&& (255 : Int32)).toInt = x.toInt % 2 ^ 8 := Jvm.Kit.i32_mask x 255 (k := 8) (by decide) (by decide)
  unfold own_sm
  omega
theorem own_sm64 (y : Int64) : own_sm ((y &&& (255 : Int64)).toInt32) := by
  have h : (y &&& (255 : Int64)).toInt = y.toInt % 2 ^ 8 := Jvm.Kit.i64_mask y 255 (k := 8) (by decide) (by decide)
  have e := Jvm.Kit.i32_of_i64 (x := y &&& (255 : Int64)) (by omega) (by omega)
  unfold own_sm
  omega
theorem own_sm_dr (d : Int64) (q1 : Int32) : own_sm (own_dr d q1) := own_sm_c (own_sm64 _)
theorem own_smcc (vl : List Value) (zn md q1 : Int32) (d : Int64) : own_sm (own_ccA vl zn md q1 d) := by
  unfold own_ccA
  split
  · exact own_sm_n (own_sm_n (own_sm_c (own_sm_and _)))
  · exact own_sm_dr d q1
theorem own_smch (vl : List Value) (zn md q1 : Int32) (d : Int64) : own_sm (own_chv vl zn md q1 d) := by
  unfold own_chv
  split
  · exact own_smcc _ _ _ _ _
  · split
    · exact own_sm_dr d q1
    · exact own_smcc _ _ _ _ _
theorem own_c255 (vl : List Value) (zn md q1 : Int32) (d : Int64) : ¬ (255 : Int32) < nar .char (nar .char (own_chv vl zn md q1 d)) := by
  have h := own_sm_n (own_sm_n (own_smch vl zn md q1 d))
  have z1 : (255 : Int32).toInt = 255 := by decide
  rw [Int32.lt_iff_toInt_lt, z1]
  have := h.2
  omega
def Q_law (n0 : Nat) (v : Option Value) (h : Heap) (L : List Loc) : Prop := v = some (.int 1) ∧ Fr n0 L
theorem ef_rm_law (m : MethodId) (x0 : Int32) (x1 : Int32) (x2 : Int64) : entryFrame m #[(.int x0), (.int x1), (.long x2)] maxLocals = mkF m 0 #[.val (.int x0), .val (.int x1), .val (.long x2), .second, .unset, .unset, .unset, .unset, .unset, .unset, .unset] [] := by first | (simp [entryFrame, mkF, argsToLocals, Value.category, maxLocals]; done) | rfl | (simp [entryFrame, mkF, argsToLocals, Value.category, maxLocals] <;> rfl)
theorem pd_18 : parseMethodDescriptor "(Ljava/lang/String;)Ljava/util/Optional;" = some ⟨[.object "java/lang/String"], some (.object "java/util/Optional")⟩ := by decide +kernel
theorem pd_19 : parseMethodDescriptor "([C)V" = some ⟨[.array .char], none⟩ := by decide +kernel
theorem pd_20 : parseMethodDescriptor "(ILjava/lang/String;IJ)C" = some ⟨[.int, .object "java/lang/String", .int, .long], some (.char)⟩ := by decide +kernel
set_option maxRecDepth 65536 in
set_option maxHeartbeats 40000000 in
theorem rm_law (l : Launch) (Z : State) (a0 : Array Value) (hw : ∀ d ∈ tables_1, d.before a0 Z = true) (ws : List Jvm.Cond) (p0 : Int32) (p1 : Int32) (p2 : Int64) (ic : Int32) (fm : Value) (va : Addr) (vk : ClassId) (ev : Addr) (ei : Addr) (sv : Addr) (bv : Addr) (kv : ClassId) (si : Addr) (bi : Addr) (ki : ClassId) (oe : Addr) (h0 : Heap) (n0 : Nat) (Z0 : n0 ≤ h0.size) (O0 : Old Z n0 h0) (S_c : Sta Z Z.heap "java/lang/String" "COMPACT_STRINGS" "Z" (.int ic)) (hic : ¬ ic = 0) (hfm : fm.category = 1) (S_f : Sta Z Z.heap "jdk/internal/util/Preconditions" "SIOOBE_FORMATTER" "Ljava/util/function/BiFunction;" fm) (S_oe : Sta Z Z.heap "java/util/Optional" "EMPTY" "Ljava/util/Optional;" (.ref oe)) (S_vs : Sta Z Z.heap "com/example/umpire/umpire/xsts/Validity" "$VALUES" "[Lcom/example/umpire/umpire/xsts/Validity;" (.ref va)) (E_va : Exa Z Z.heap va "[Lcom/example/umpire/umpire/xsts/Validity;") (V_va : Arv Z Z.heap va vk (.object "com/example/umpire/umpire/xsts/Validity") (2 : Int32) [(.ref ev), (.ref ei)] .null) (E_ev : Exa Z Z.heap ev "com/example/umpire/umpire/xsts/Validity") (F_ev : Fld Z Z.heap ev "com/example/umpire/umpire/xsts/Validity" "word" "Ljava/lang/String;" (.ref sv)) (E_sv : Exa Z Z.heap sv "java/lang/String") (C_sv : Fld Z Z.heap sv "java/lang/String" "coder" "B" (.int (0 : Int32))) (F_sv : Fld Z Z.heap sv "java/lang/String" "value" "[B" (.ref bv)) (V_bv : Arv Z Z.heap bv kv .byte (5 : Int32) [(.int (118 : Int32)), (.int (97 : Int32)), (.int (108 : Int32)), (.int (105 : Int32)), (.int (100 : Int32))] (.int (0 : Int32))) (E_ei : Exa Z Z.heap ei "com/example/umpire/umpire/xsts/Validity") (F_ei : Fld Z Z.heap ei "com/example/umpire/umpire/xsts/Validity" "word" "Ljava/lang/String;" (.ref si)) (E_si : Exa Z Z.heap si "java/lang/String") (C_si : Fld Z Z.heap si "java/lang/String" "coder" "B" (.int (0 : Int32))) (F_si : Fld Z Z.heap si "java/lang/String" "value" "[B" (.ref bi)) (V_bi : Arv Z Z.heap bi ki .byte (7 : Int32) [(.int (105 : Int32)), (.int (110 : Int32)), (.int (118 : Int32)), (.int (97 : Int32)), (.int (108 : Int32)), (.int (105 : Int32)), (.int (100 : Int32))] (.int (0 : Int32))) (E_oe : Exa Z Z.heap oe "java/util/Optional") (F_oe : Fld Z Z.heap oe "java/util/Optional" "value" "Ljava/lang/Object;" .null) (S_ev : Sta Z Z.heap "com/example/umpire/umpire/xsts/Validity" "VALID" "Lcom/example/umpire/umpire/xsts/Validity;" (.ref ev)) (S_ei : Sta Z Z.heap "com/example/umpire/umpire/xsts/Validity" "INVALID" "Lcom/example/umpire/umpire/xsts/Validity;" (.ref ei)) :
    MetFree l x (head1 (Jvm.Cond.code x code maxLocals ret :: ws) room_1) (fun a U => a = #[(.int p0), (.int p1), (.long p2)] ∧ Z.Warmed39 U.vm ∧ U.heap = h0 ∧ CHv Z own_EL U.vm h0) (fun _ _ _ _ _ => True) (fun _ U o U' => ∃ v L, o = .returned v ∧ (Q_law n0) v U'.heap L ∧ CHr Z own_EL U.vm U.heap U'.vm U'.heap ∧ ReturnedEndW U o U' L 24 3200) := by
  refine MetFree.of_bodySF (plainFor_of_name pn_3) hisR ?_
  intro p e s m args below meth c s₁ Bd hml0 hP hK
  obtain ⟨rfl, hZ, hh, hCH⟩ := hP
  have hEL := own_EW hw
  have S0 : s.Since s.vm s.heap.size := (State.WarmedH.refl s).since _
  have J0 : s.heap.size ≤ h0.size := by rw [hh]; exact Nat.le_refl _
  have C0 : CHr Z own_EL s.vm s.heap s.vm h0 := by rw [hh]; exact CHr.refl hCH
  have hx := Bd.exec
  have hby := Bd.bytes
  have hW := fun i d (h : tables_1[i]? = some d) => hw d (List.mem_of_getElem? h)
  have hlk : meth.locks = false := BodyLoose.notSynchronized Bd
  have hml : c.maxLocals = 11 := hml0
  have hown : s.vm.findClass "com/example/umpire/umpire/xsts/ValidityOfPinLaw" = some m.cls := findClass_of_methodNamed Bd.named
  have hnm := (name_of_methodNamed Bd.named Bd.method).1
  have X0 : Stand p l e room_1 (s.setVm s.vm) m #[(.int p0), (.int p1), (.long p2)] below meth c s₁ [] 0 0 := Stand.of_body Bd
  have e0 : s₁.heap = h0 := by rw [← hh, Bd.state]; rfl
  have N0 := Fr.nil n0
  show own_GoW Z own_EL p e below s (Q_law n0) 24 3200 s₁ (entryFrame m #[(.int p0), (.int p1), (.long p2)] maxLocals)
  refine own_castW (g' := (mkF m 0 #[iv p0, iv p1, own_j p2, s_, u_, u_, u_, u_, u_, u_, u_] [])) (ef_rm_law m p0 p1 p2) ?_
  have j13 : ∀ (ta : Addr) (tb : Addr) (tk : ClassId) (tn : Int32) (tl : List Value) (vmH13 : Vm) (kH13 : Nat) (TH13 : State) (hH13 : Heap) (lH13 : List Loc) (_ : Stand p l e room_1 (s.setVm vmH13) m #[(.int p0), (.int p1), (.long p2)] below meth c TH13 lH13 2 32) (_ : Z.Warmed39 (s.setVm vmH13).vm) (_ : (s.setVm vmH13).vm.findClass "com/example/umpire/umpire/xsts/ValidityOfPinLaw" = some m.cls) (_ : TH13.heap = hH13) (_ : Fr n0 lH13) (_ : n0 ≤ hH13.size) (_ : s.Since vmH13 kH13) (_ : kH13 ≤ hH13.size) (_ : CHr Z own_EL s.vm s.heap vmH13 hH13) (_ : Old Z n0 hH13) (_ : Exa Z hH13 ta "java/lang/String") (_ : Fld Z hH13 ta "java/lang/String" "coder" "B" (.int (0 : Int32))) (_ : Fld Z hH13 ta "java/lang/String" "value" "[B" (.ref tb)) (_ : Arv Z hH13 tb tk .byte tn tl (.int (0 : Int32))), own_tf tn tl → own_GoW Z own_EL p e below s (Q_law n0) 24 3200 TH13 (mkF m 13 #[iv p0, iv p1, own_j p2, s_, u_, u_, u_, u_, u_, u_, u_] [.ref ta]) := by
    intro ta tb tk tn tl vmH13 kH13 TH13 hH13 lH13 XH13 hZ hown eH13 NH13 ZH13 SH13 JH13 CH13 OH13 f0H13 f1H13 f2H13 f3H13 htf
    refine own_sW TH13 (mkF m 15 #[iv p0, iv p1, own_j p2, s_, rv ta, u_, u_, u_, u_, u_, u_] []) (fun t k => XS.astore XH13.here hx rfl (hb hby at_13) rfl rfl (l' := #[iv p0, iv p1, own_j p2, s_, rv ta, u_, u_, u_, u_, u_, u_]) rfl k) ?_
    refine own_sW TH13 (mkF m 16 #[iv p0, iv p1, own_j p2, s_, rv ta, u_, u_, u_, u_, u_, u_] [.int p0]) (fun t k => XS.iloadN XH13.here hx rfl (hb hby at_15) rfl k) ?_
    refine own_sW TH13 (mkF m 17 #[iv p0, iv p1, own_j p2, s_, rv ta, u_, u_, u_, u_, u_, u_] [.int 1, .int p0]) (fun t k => XS.iconst XH13.here hx rfl (hb hby at_16) k) ?_
    refine own_sW TH13 (mkF m 18 #[iv p0, iv p1, own_j p2, s_, rv ta, u_, u_, u_, u_, u_, u_] [.int ((p0.toUInt32 >>> (1 : UInt32)).toInt32)]) (fun t k => XS.iushr XH13.here hx rfl (hb hby at_17) rfl k) ?_
    refine own_sW TH13 (mkF m 19 #[iv p0, iv p1, own_j p2, s_, rv ta, u_, u_, u_, u_, u_, u_] [.int 3, .int ((p0.toUInt32 >>> (1 : UInt32)).toInt32)]) (fun t k => XS.iconst XH13.here hx rfl (hb hby at_18) k) ?_
    refine own_sW TH13 (mkF m 20 #[iv p0, iv p1, own_j p2, s_, rv ta, u_, u_, u_, u_, u_, u_] [.int (((p0.toUInt32 >>> (1 : UInt32)).toInt32) &&& (3 : Int32))]) (fun t k => XS.iand XH13.here hx rfl (hb hby at_19) rfl k) ?_
    generalize hd_mo : (((p0.toUInt32 >>> (1 : UInt32)).toInt32) &&& (3 : Int32)) = mo
    refine own_sW TH13 (mkF m 22 #[iv p0, iv p1, own_j p2, s_, rv ta, iv mo, u_, u_, u_, u_, u_] []) (fun t k => XS.istore XH13.here hx rfl (hb hby at_20) rfl (l' := #[iv p0, iv p1, own_j p2, s_, rv ta, iv mo, u_, u_, u_, u_, u_]) rfl k) ?_
    have j246 : ∀ (wa : Addr) (wb : Addr) (wk : ClassId) (zn : Int32) (wl : List Value) (x6 : Int32) (x7 : Addr) (vmH246 : Vm) (kH246 : Nat) (TH246 : State) (hH246 : Heap) (lH246 : List Loc) (_ : Stand p l e room_1 (s.setVm vmH246) m #[(.int p0), (.int p1), (.long p2)] below meth c TH246 lH246 12 120) (_ : Z.Warmed39 (s.setVm vmH246).vm) (_ : (s.setVm vmH246).vm.findClass "com/example/umpire/umpire/xsts/ValidityOfPinLaw" = some m.cls) (_ : TH246.heap = hH246) (_ : Fr n0 lH246) (_ : n0 ≤ hH246.size) (_ : s.Since vmH246 kH246) (_ : kH246 ≤ hH246.size) (_ : CHr Z own_EL s.vm s.heap vmH246 hH246) (_ : Old Z n0 hH246) (_ : Exa Z hH246 wa "java/lang/String") (_ : Fld Z hH246 wa "java/lang/String" "coder" "B" (.int (0 : Int32))) (_ : Fld Z hH246 wa "java/lang/String" "value" "[B" (.ref wb)) (_ : Arv Z hH246 wb wk .byte zn wl (.int (0 : Int32))) (_ : Safe Z own_EL vmH246 hH246 wa) (_ : n0 ≤ wa), own_form zn wl → own_GoW Z own_EL p e below s (Q_law n0) 24 3200 TH246 (mkF m 246 #[iv p0, iv p1, own_j p2, s_, rv ta, iv mo, iv x6, rv x7, u_, u_, u_] [.ref wa]) := by
      intro wa wb wk zn wl x6 x7 vmH246 kH246 TH246 hH246 lH246 XH246 hZ hown eH246 NH246 ZH246 SH246 JH246 CH246 OH246 f0H246 f1H246 f2H246 f3H246 sfH246_wa oH246_wa hform
      refine own_sW TH246 (mkF m 248 #[iv p0, iv p1, own_j p2, s_, rv ta, iv mo, iv x6, rv x7, rv wa, u_, u_] []) (fun t k => XS.astore XH246.here hx rfl (hb hby at_246) rfl rfl (l' := #[iv p0, iv p1, own_j p2, s_, rv ta, iv mo, iv x6, rv x7, rv wa, u_, u_]) rfl k) ?_
      refine own_sW TH246 (mkF m 249 #[iv p0, iv p1, own_j p2, s_, rv ta, iv mo, iv x6, rv x7, rv wa, u_, u_] [.int p0]) (fun t k => XS.iloadN XH246.here hx rfl (hb hby at_248) rfl k) ?_
      refine own_sW TH246 (mkF m 251 #[iv p0, iv p1, own_j p2, s_, rv ta, iv mo, iv x6, rv x7, rv wa, u_, u_] [.int 10, .int p0]) (fun t k => XS.bipush XH246.here hx rfl (hb hby at_249) k) ?_
      refine own_sW TH246 (mkF m 252 #[iv p0, iv p1, own_j p2, s_, rv ta, iv mo, iv x6, rv x7, rv wa, u_, u_] [.int ((p0.toUInt32 >>> (10 : UInt32)).toInt32)]) (fun t k => XS.iushr XH246.here hx rfl (hb hby at_251) rfl k) ?_
      refine own_sW TH246 (mkF m 254 #[iv p0, iv p1, own_j p2, s_, rv ta, iv mo, iv x6, rv x7, rv wa, u_, u_] [.int 7, .int ((p0.toUInt32 >>> (10 : UInt32)).toInt32)]) (fun t k => XS.bipush XH246.here hx rfl (hb hby at_252) k) ?_
      refine own_sW TH246 (mkF m 255 #[iv p0, iv p1, own_j p2, s_, rv ta, iv mo, iv x6, rv x7, rv wa, u_, u_] [.int (((p0.toUInt32 >>> (10 : UInt32)).toInt32) &&& (7 : Int32))]) (fun t k => XS.iand XH246.here hx rfl (hb hby at_254) rfl k) ?_
      refine own_sW TH246 (mkF m 257 #[iv p0, iv p1, own_j p2, s_, rv ta, iv mo, iv x6, rv x7, rv wa, u_, u_] [.int 7, .int (((p0.toUInt32 >>> (10 : UInt32)).toInt32) &&& (7 : Int32))]) (fun t k => XS.bipush XH246.here hx rfl (hb hby at_255) k) ?_
      by_cases c257 : (((p0.toUInt32 >>> (10 : UInt32)).toInt32) &&& (7 : Int32)) = (7 : Int32)
      · refine own_sW TH246 (mkF m 260 #[iv p0, iv p1, own_j p2, s_, rv ta, iv mo, iv x6, rv x7, rv wa, u_, u_] []) (fun t k => XS.icmpNo XH246.here hx rfl (hb hby at_257) rfl (teq c257).2 k) ?_
        refine own_sW TH246 (mkF m 261 #[iv p0, iv p1, own_j p2, s_, rv ta, iv mo, iv x6, rv x7, rv wa, u_, u_] [.null]) (fun t k => XS.aconstNull XH246.here hx rfl (hb hby at_260) k) ?_
        refine own_sW TH246 (mkF m 263 #[iv p0, iv p1, own_j p2, s_, rv ta, iv mo, iv x6, rv x7, .val .null, u_, u_] []) (fun t k => XS.astore XH246.here hx rfl (hb hby at_261) rfl rfl (l' := #[iv p0, iv p1, own_j p2, s_, rv ta, iv mo, iv x6, rv x7, .val .null, u_, u_]) rfl k) ?_
        refine own_sW TH246 (mkF m 264 #[iv p0, iv p1, own_j p2, s_, rv ta, iv mo, iv x6, rv x7, .val .null, u_, u_] [.null]) (fun t k => XS.aconstNull XH246.here hx rfl (hb hby at_263) k) ?_
        refine own_sW TH246 (mkF m 266 #[iv p0, iv p1, own_j p2, s_, rv ta, iv mo, iv x6, rv x7, .val .null, .val .null, u_] []) (fun t k => XS.astore XH246.here hx rfl (hb hby at_264) rfl rfl (l' := #[iv p0, iv p1, own_j p2, s_, rv ta, iv mo, iv x6, rv x7, .val .null, .val .null, u_]) rfl k) ?_
        refine own_sW TH246 (mkF m 268 #[iv p0, iv p1, own_j p2, s_, rv ta, iv mo, iv x6, rv x7, .val .null, .val .null, u_] [.null]) (fun t k => XS.aload XH246.here hx rfl (hb hby at_266) rfl rfl k) ?_
        refine own_sW TH246 (mkF m 304 #[iv p0, iv p1, own_j p2, s_, rv ta, iv mo, iv x6, rv x7, .val .null, .val .null, u_] []) (fun t k => XS.ifnullYes XH246.here hx rfl (pc0 := 268) (pc' := 304) rfl (hb hby at_268) rfl (by decide) (by decide) k) ?_
        refine own_sW TH246 (mkF m 306 #[iv p0, iv p1, own_j p2, s_, rv ta, iv mo, iv x6, rv x7, .val .null, .val .null, u_] [.null]) (fun t k => XS.aload XH246.here hx rfl (hb hby at_304) rfl rfl k) ?_
        obtain ⟨_, _, ⟨T3, L3, k3, n3⟩, -, X3, ⟨Lc3, hQ3, lq3, yq3, zq3⟩, st3⟩ := Jvm.LawKit.callS XH246 hx (y := (⟨"com/example/umpire/umpire/xsts/Validity", "of", "(Ljava/lang/String;)Ljava/util/Optional;"⟩ : MethodName)) hown (mvT hZ (hW 82 _ rfl)) (mvT hZ (hW 83 _ rfl)) (mvT hZ (hW 80 _ rfl)) (mvT hZ (hW 84 _ rfl)) (by decide) (backOf (W := 0) (rm_of0 l Z a0 hw [] va vk ev ei sv bv kv si bi ki oe ic hH246 n0 ZH246 OH246 S_c hic S_oe S_vs E_va V_va E_ev F_ev E_sv C_sv F_sv V_bv E_ei F_ei E_si C_si F_si V_bi E_oe F_oe) hZ (hW 84 _ rfl) (hW 80 _ rfl) (by decide) (by decide)) (g := (mkF m 306 #[iv p0, iv p1, own_j p2, s_, rv ta, iv mo, iv x6, rv x7, .val .null, .val .null, u_] [.null])) rfl (by rw [hml]; rfl) (argsL := [.null]) (rest := []) (lenOf pd_18 rfl) rfl (by show 2 * 0 + _ ≤ _; exact Nat.le_of_eq rfl) (hb hby at_306) (fun _ _ => ⟨rfl, eH246, (by decide : 12 + 1 ≤ _), (by decide : 120 + 2 ≤ _)⟩)
        dsimp only [Pt.U, Pt.locs, Pt.cells, Pt.slots] at X3 lq3 yq3 zq3 st3 hQ3
        subst lq3 yq3 zq3
        obtain ⟨rfl, Nq3, K2⟩ := hQ3
        have N3 := Fr.app NH246 Nq3
        have g4 := f0H246.keep K2
        have g5 := f1H246.keep K2 nin0
        have g6 := f2H246.keep K2 nin0
        have g7 := f3H246.keep K2 nin0
        have Z2 : n0 ≤ T3.heap.size := (Nat.le_trans ZH246 K2.1)
        have O2 : Old Z n0 T3.heap := OH246.keep K2 (all0 (P := fun x => n0 ≤ x))
        have C8 := CH246.trans (CHr.keep K2 sf0 CH246.1)
        have J8 := Nat.le_trans JH246 K2.1
        have sf8_wa := Safe.keep K2 sf0 CH246.1 sfH246_wa
        refine own_sW T3 (mkF m 309 #[iv p0, iv p1, own_j p2, s_, rv ta, iv mo, iv x6, rv x7, .val .null, .val .null, u_] [.ref oe]) st3 ?_
        refine own_sW T3 (mkF m 310 #[iv p0, iv p1, own_j p2, s_, rv ta, iv mo, iv x6, rv x7, .val .null, .val .null, u_] [.null, .ref oe]) (fun t k => XS.aconstNull X3.here hx rfl (hb hby at_309) k) ?_
        obtain ⟨cq12, kq12, q12a, q12b, q12c⟩ := isOf hZ rfl (E_oe.ext O2.2)
        obtain ⟨_, _, ⟨T11, L11, k11, n11⟩, -, X11, ⟨Lc11, hQ11, lq11, yq11, zq11⟩, st11⟩ := X3.virtualBack hx (y := (⟨"java/util/Optional", "orElse", "(Ljava/lang/Object;)Ljava/lang/Object;"⟩ : MethodName)) (z := (⟨"java/util/Optional", "orElse", "(Ljava/lang/Object;)Ljava/lang/Object;"⟩ : MethodName)) hown (mvT hZ (hW 121 _ rfl)) (mvT hZ (hW 122 _ rfl)) (notFace_of_selects (args := #[]) (mvT hZ (hW 124 _ rfl))) (mvT hZ (hW 124 _ rfl)) (mvT hZ (hW 123 _ rfl)) (by decide) (backOf (W := 0) (rm_oreN l Z a0 hw [] oe T3.heap n0 Z2 (F_oe.ext O2.2)) hZ (hW 125 _ rfl) (hW 106 _ rfl) (by decide) (by decide)) q12a q12c (g := (mkF m 310 #[iv p0, iv p1, own_j p2, s_, rv ta, iv mo, iv x6, rv x7, .val .null, .val .null, u_] [.null, .ref oe])) rfl (by rw [hml]; rfl) (Steps.refl _) (argsL := [.null]) (rest := []) (lenOf pd_12 rfl) rfl (by show 2 * 0 + _ ≤ _; exact Nat.le_of_eq rfl) (hb hby at_310) (fun _ _ => ⟨rfl, rfl, (by decide : 13 + 0 ≤ _), (by decide : 122 + 0 ≤ _)⟩)
        dsimp only [Pt.U, Pt.locs, Pt.cells, Pt.slots] at X11 lq11 yq11 zq11 st11 hQ11
        subst lq11 yq11 zq11
        obtain ⟨rfl, Nq11, eq10⟩ := hQ11
        have N11 := Fr.app N3 Nq11
        refine own_trW (T' := T11) (g' := (mkF m 313 #[iv p0, iv p1, own_j p2, s_, rv ta, iv mo, iv x6, rv x7, .val .null, .val .null, u_] [.null])) st11 ?_
        refine own_sW T11 (mkF m 316 #[iv p0, iv p1, own_j p2, s_, rv ta, iv mo, iv x6, rv x7, .val .null, .val .null, u_] [.null]) (checkcastNull X11 hx (g := (mkF m 313 #[iv p0, iv p1, own_j p2, s_, rv ta, iv mo, iv x6, rv x7, .val .null, .val .null, u_] [.null])) rfl rfl (hb hby at_313)) ?_
        refine own_sW T11 (mkF m 318 #[iv p0, iv p1, own_j p2, s_, rv ta, iv mo, iv x6, rv x7, .val .null, .val .null, .val .null] []) (fun t k => XS.astore X11.here hx rfl (hb hby at_316) rfl rfl (l' := #[iv p0, iv p1, own_j p2, s_, rv ta, iv mo, iv x6, rv x7, .val .null, .val .null, .val .null]) rfl k) ?_
        refine own_sW T11 (mkF m 320 #[iv p0, iv p1, own_j p2, s_, rv ta, iv mo, iv x6, rv x7, .val .null, .val .null, .val .null] [.null]) (fun t k => XS.aload X11.here hx rfl (hb hby at_318) rfl rfl k) ?_
        refine own_sW T11 (mkF m 322 #[iv p0, iv p1, own_j p2, s_, rv ta, iv mo, iv x6, rv x7, .val .null, .val .null, .val .null] [.null, .null]) (fun t k => XS.aload X11.here hx rfl (hb hby at_320) rfl rfl k) ?_
        refine own_sW T11 (mkF m 325 #[iv p0, iv p1, own_j p2, s_, rv ta, iv mo, iv x6, rv x7, .val .null, .val .null, .val .null] []) (fun t k => acmp (g := (mkF m 322 #[iv p0, iv p1, own_j p2, s_, rv ta, iv mo, iv x6, rv x7, .val .null, .val .null, .val .null] [.null, .null])) X11 hx rfl (x := .null) (y := .null) rfl rfl (pc0 := 322) (pc' := 325) (same := true) rfl (hb hby at_322) rfl (decide_eq_true rfl) (by decide) rfl k) ?_
        refine own_sW T11 (mkF m 326 #[iv p0, iv p1, own_j p2, s_, rv ta, iv mo, iv x6, rv x7, .val .null, .val .null, .val .null] [.int 1]) (fun t k => XS.iconst X11.here hx rfl (hb hby at_325) k) ?_
        refine own_sW T11 (mkF m 330 #[iv p0, iv p1, own_j p2, s_, rv ta, iv mo, iv x6, rv x7, .val .null, .val .null, .val .null] [.int 1]) (fun t k => XS.goto X11.here hx rfl (pc0 := 326) (pc' := 330) rfl (hb hby at_326) (by decide) (by decide) k) ?_
        refine own_rNW X11 hx hEL hZ SH246 (by rw [eq10]; exact J8) (by rw [eq10]; exact C8) hlk Bd.returns (by simp) (hb hby at_330) ?_ (by decide) (by decide)
        rw [eq10]
        exact ⟨rfl, N11⟩
      · refine own_sW TH246 (mkF m 263 #[iv p0, iv p1, own_j p2, s_, rv ta, iv mo, iv x6, rv x7, rv wa, u_, u_] []) (fun t k => XS.icmpYes XH246.here hx rfl (pc0 := 257) (pc' := 263) rfl (hb hby at_257) rfl (feq c257).2 (by decide) (by decide) k) ?_
        refine own_sW TH246 (mkF m 264 #[iv p0, iv p1, own_j p2, s_, rv ta, iv mo, iv x6, rv x7, rv wa, u_, u_] [.null]) (fun t k => XS.aconstNull XH246.here hx rfl (hb hby at_263) k) ?_
        refine own_sW TH246 (mkF m 266 #[iv p0, iv p1, own_j p2, s_, rv ta, iv mo, iv x6, rv x7, rv wa, .val .null, u_] []) (fun t k => XS.astore XH246.here hx rfl (hb hby at_264) rfl rfl (l' := #[iv p0, iv p1, own_j p2, s_, rv ta, iv mo, iv x6, rv x7, rv wa, .val .null, u_]) rfl k) ?_
        refine own_sW TH246 (mkF m 268 #[iv p0, iv p1, own_j p2, s_, rv ta, iv mo, iv x6, rv x7, rv wa, .val .null, u_] [.ref wa]) (fun t k => XS.aload XH246.here hx rfl (hb hby at_266) rfl rfl k) ?_
        refine own_sW TH246 (mkF m 271 #[iv p0, iv p1, own_j p2, s_, rv ta, iv mo, iv x6, rv x7, rv wa, .val .null, u_] []) (fun t k => XS.ifnullNo XH246.here hx rfl (hb hby at_268) rfl k) ?_
        refine own_sW TH246 (mkF m 273 #[iv p0, iv p1, own_j p2, s_, rv ta, iv mo, iv x6, rv x7, rv wa, .val .null, u_] [.ref wa]) (fun t k => XS.aload XH246.here hx rfl (hb hby at_271) rfl rfl k) ?_
        obtain ⟨sa13, T13, h13, k13, sb13, sk13, X13, e13, E13, S13, J13, hZ, hown, A13, F13c, F13v, V13, la13, lb13, R13, -, ns13, st13⟩ := ldcCH XH246 hx hZ hown (hW 0 _ rfl) (own_wS hw) eH246 SH246 JH246 hEL (List.mem_of_getElem? (i := 0) rfl) CH246.1 (vs := [(.int (118 : Int32)), (.int (97 : Int32)), (.int (108 : Int32)), (.int (105 : Int32)), (.int (100 : Int32))]) (z := (5 : Int32)) ⟨by decide, by first | rfl | decide⟩ (by decide) rfl (g := (mkF m 273 #[iv p0, iv p1, own_j p2, s_, rv ta, iv mo, iv x6, rv x7, rv wa, .val .null, u_] [.ref wa])) rfl (hb hby at_273) (n := 28) (by decide) (by decide) (by decide : 12 + 2 ≤ _) (by decide : 120 + 32 ≤ _)
        have g14 := f0H246.ext E13
        have g15 := f1H246.ext E13
        have g16 := f2H246.ext E13
        have g17 := f3H246.ext E13
        have C13 := CH246.trans R13
        have sf13_wa := R13.safe f0H246.lt sfH246_wa
        have nq13_wa := ns13 _ sf13_wa
        have Z13 : n0 ≤ h13.size := Nat.le_trans ZH246 E13.1
        have O13 : Old Z n0 h13 := OH246.ext E13
        refine own_sW T13 (mkF m 275 #[iv p0, iv p1, own_j p2, s_, rv ta, iv mo, iv x6, rv x7, rv wa, .val .null, u_] [.ref sa13, .ref wa]) st13 ?_
        obtain ⟨cq21, kq21, q21a, q21b, q21c⟩ := isOf hZ e13 g14
        obtain ⟨_, _, ⟨T20, L20, k20, n20⟩, -, X20, ⟨Lc20, hQ20, lq20, yq20, zq20⟩, st20⟩ := X13.virtualBack hx (y := (⟨"java/lang/String", "equals", "(Ljava/lang/Object;)Z"⟩ : MethodName)) (z := (⟨"java/lang/String", "equals", "(Ljava/lang/Object;)Z"⟩ : MethodName)) hown (mvT hZ (hW 70 _ rfl)) (mvT hZ (hW 71 _ rfl)) (notFace_of_selects (args := #[]) (mvT hZ (hW 73 _ rfl))) (mvT hZ (hW 73 _ rfl)) (mvT hZ (hW 72 _ rfl)) (by decide) (backOf (W := 0) (rm_seqV1 l Z a0 hw [] wa wb wk zn wl sa13 sb13 sk13 ic h13 n0 Z13 g14 g15 g16 g17 A13 F13c F13v V13 nq13_wa.1 O13 hform S_c hic) hZ (hW 74 _ rfl) (hW 1 _ rfl) (by decide) (by decide)) q21a q21c (g := (mkF m 275 #[iv p0, iv p1, own_j p2, s_, rv ta, iv mo, iv x6, rv x7, rv wa, .val .null, u_] [.ref sa13, .ref wa])) rfl (by rw [hml]; rfl) (Steps.refl _) (argsL := [(.ref sa13)]) (rest := []) (lenOf pd_15 rfl) rfl (by show 2 * 0 + _ ≤ _; exact Nat.le_of_eq rfl) (hb hby at_275) (fun _ _ => ⟨rfl, e13, (by decide : 14 + 0 ≤ _), (by decide : 152 + 0 ≤ _)⟩)
        dsimp only [Pt.U, Pt.locs, Pt.cells, Pt.slots] at X20 lq20 yq20 zq20 st20 hQ20
        subst lq20 yq20 zq20
        obtain ⟨rfl, Nq20, eq19⟩ := hQ20
        have N20 := Fr.app NH246 Nq20
        refine own_trW (T' := T20) (g' := (mkF m 278 #[iv p0, iv p1, own_j p2, s_, rv ta, iv mo, iv x6, rv x7, rv wa, .val .null, u_] [.int (own_beq wl own_LV)])) st20 ?_
        by_cases c278 : (own_beq wl own_LV) = (0 : Int32)
        · refine own_sW T20 (mkF m 289 #[iv p0, iv p1, own_j p2, s_, rv ta, iv mo, iv x6, rv x7, rv wa, .val .null, u_] []) (fun t k => XS.ifYes X20.here hx rfl (pc0 := 278) (pc' := 289) rfl (hb hby at_278) rfl ((if0 _ _).trans (teq c278).1) (by decide) (by decide) k) ?_
          refine own_sW T20 (mkF m 291 #[iv p0, iv p1, own_j p2, s_, rv ta, iv mo, iv x6, rv x7, rv wa, .val .null, u_] [.ref wa]) (fun t k => XS.aload X20.here hx rfl (hb hby at_289) rfl rfl k) ?_
          obtain ⟨sa22, T22, h22, k22, sb22, sk22, X22, e22, E22, S22, J22, hZ, hown, A22, F22c, F22v, V22, la22, lb22, R22, -, ns22, st22⟩ := ldcCH X20 hx hZ hown (hW 128 _ rfl) (own_wS hw) eq19 S13 J13 hEL (List.mem_of_getElem? (i := 1) rfl) C13.1 (vs := [(.int (105 : Int32)), (.int (110 : Int32)), (.int (118 : Int32)), (.int (97 : Int32)), (.int (108 : Int32)), (.int (105 : Int32)), (.int (100 : Int32))]) (z := (7 : Int32)) ⟨by decide, by first | rfl | decide⟩ (by decide) rfl (g := (mkF m 291 #[iv p0, iv p1, own_j p2, s_, rv ta, iv mo, iv x6, rv x7, rv wa, .val .null, u_] [.ref wa])) rfl (hb hby at_291) (n := 28) (by decide) (by decide) (by decide : 14 + 2 ≤ _) (by decide : 152 + 32 ≤ _)
          have g23 := g14.ext E22
          have g24 := g15.ext E22
          have g25 := g16.ext E22
          have g26 := g17.ext E22
          have g27 := A13.ext E22
          have g28 := F13c.ext E22
          have g29 := F13v.ext E22
          have g30 := V13.ext E22
          have C22 := C13.trans R22
          have sf22_wa := R22.safe g14.lt sf13_wa
          have nq22_wa := ns22 _ sf22_wa
          have Z22 : n0 ≤ h22.size := Nat.le_trans Z13 E22.1
          have O22 : Old Z n0 h22 := O13.ext E22
          refine own_sW T22 (mkF m 293 #[iv p0, iv p1, own_j p2, s_, rv ta, iv mo, iv x6, rv x7, rv wa, .val .null, u_] [.ref sa22, .ref wa]) st22 ?_
          obtain ⟨cq34, kq34, q34a, q34b, q34c⟩ := isOf hZ e22 g23
          obtain ⟨_, _, ⟨T33, L33, k33, n33⟩, -, X33, ⟨Lc33, hQ33, lq33, yq33, zq33⟩, st33⟩ := X22.virtualBack hx (y := (⟨"java/lang/String", "equals", "(Ljava/lang/Object;)Z"⟩ : MethodName)) (z := (⟨"java/lang/String", "equals", "(Ljava/lang/Object;)Z"⟩ : MethodName)) hown (mvT hZ (hW 70 _ rfl)) (mvT hZ (hW 71 _ rfl)) (notFace_of_selects (args := #[]) (mvT hZ (hW 73 _ rfl))) (mvT hZ (hW 73 _ rfl)) (mvT hZ (hW 72 _ rfl)) (by decide) (backOf (W := 0) (rm_seqI1 l Z a0 hw [] wa wb wk zn wl sa22 sb22 sk22 ic h22 n0 Z22 g23 g24 g25 g26 A22 F22c F22v V22 nq22_wa.1 O22 hform S_c hic) hZ (hW 74 _ rfl) (hW 1 _ rfl) (by decide) (by decide)) q34a q34c (g := (mkF m 293 #[iv p0, iv p1, own_j p2, s_, rv ta, iv mo, iv x6, rv x7, rv wa, .val .null, u_] [.ref sa22, .ref wa])) rfl (by rw [hml]; rfl) (Steps.refl _) (argsL := [(.ref sa22)]) (rest := []) (lenOf pd_15 rfl) rfl (by show 2 * 0 + _ ≤ _; exact Nat.le_of_eq rfl) (hb hby at_293) (fun _ _ => ⟨rfl, e22, (by decide : 16 + 0 ≤ _), (by decide : 184 + 0 ≤ _)⟩)
          dsimp only [Pt.U, Pt.locs, Pt.cells, Pt.slots] at X33 lq33 yq33 zq33 st33 hQ33
          subst lq33 yq33 zq33
          obtain ⟨rfl, Nq33, eq32⟩ := hQ33
          have N33 := Fr.app N20 Nq33
          refine own_trW (T' := T33) (g' := (mkF m 296 #[iv p0, iv p1, own_j p2, s_, rv ta, iv mo, iv x6, rv x7, rv wa, .val .null, u_] [.int (own_beq wl own_LI)])) st33 ?_
          by_cases c296 : (own_beq wl own_LI) = (0 : Int32)
          · refine own_sW T33 (mkF m 304 #[iv p0, iv p1, own_j p2, s_, rv ta, iv mo, iv x6, rv x7, rv wa, .val .null, u_] []) (fun t k => XS.ifYes X33.here hx rfl (pc0 := 296) (pc' := 304) rfl (hb hby at_296) rfl ((if0 _ _).trans (teq c296).1) (by decide) (by decide) k) ?_
            refine own_sW T33 (mkF m 306 #[iv p0, iv p1, own_j p2, s_, rv ta, iv mo, iv x6, rv x7, rv wa, .val .null, u_] [.ref wa]) (fun t k => XS.aload X33.here hx rfl (hb hby at_304) rfl rfl k) ?_
            obtain ⟨_, _, ⟨T37, L37, k37, n37⟩, -, X37, ⟨Lc37, hQ37, lq37, yq37, zq37⟩, st37⟩ := Jvm.LawKit.callS X33 hx (y := (⟨"com/example/umpire/umpire/xsts/Validity", "of", "(Ljava/lang/String;)Ljava/util/Optional;"⟩ : MethodName)) hown (mvT hZ (hW 82 _ rfl)) (mvT hZ (hW 83 _ rfl)) (mvT hZ (hW 80 _ rfl)) (mvT hZ (hW 84 _ rfl)) (by decide) (backOf (W := 0) (rm_ofN l Z a0 hw [] wa wb wk zn wl va vk ev ei sv bv kv si bi ki oe ic h22 n0 Z22 g23 g24 g25 g26 (OH246.ne E_sv.lt oH246_wa) (OH246.ne E_si.lt oH246_wa) O22 hform c278 c296 S_c hic S_oe S_vs E_va V_va E_ev F_ev E_sv C_sv F_sv V_bv E_ei F_ei E_si C_si F_si V_bi E_oe F_oe) hZ (hW 84 _ rfl) (hW 80 _ rfl) (by decide) (by decide)) (g := (mkF m 306 #[iv p0, iv p1, own_j p2, s_, rv ta, iv mo, iv x6, rv x7, rv wa, .val .null, u_] [.ref wa])) rfl (by rw [hml]; rfl) (argsL := [(.ref wa)]) (rest := []) (lenOf pd_18 rfl) rfl (by show 2 * 0 + _ ≤ _; exact Nat.le_of_eq rfl) (hb hby at_306) (fun _ _ => ⟨rfl, eq32, (by decide : 16 + 1 ≤ _), (by decide : 184 + 2 ≤ _)⟩)
            dsimp only [Pt.U, Pt.locs, Pt.cells, Pt.slots] at X37 lq37 yq37 zq37 st37 hQ37
            subst lq37 yq37 zq37
            obtain ⟨rfl, Nq37, K36⟩ := hQ37
            have N37 := Fr.app N33 Nq37
            have g38 := g23.keep K36
            have g39 := g24.keep K36 nin0
            have g40 := g25.keep K36 nin0
            have g41 := g26.keep K36 nin0
            have g42 := g27.keep K36
            have g43 := g28.keep K36 nin0
            have g44 := g29.keep K36 nin0
            have g45 := g30.keep K36 nin0
            have g46 := A22.keep K36
            have g47 := F22c.keep K36 nin0
            have g48 := F22v.keep K36 nin0
            have g49 := V22.keep K36 nin0
            have Z36 : n0 ≤ T37.heap.size := (Nat.le_trans Z22 K36.1)
            have O36 : Old Z n0 T37.heap := O22.keep K36 (all0 (P := fun x => n0 ≤ x))
            have C50 := C22.trans (CHr.keep K36 sf0 C22.1)
            have J50 := Nat.le_trans J22 K36.1
            have sf50_wa := Safe.keep K36 sf0 C22.1 sf22_wa
            refine own_sW T37 (mkF m 309 #[iv p0, iv p1, own_j p2, s_, rv ta, iv mo, iv x6, rv x7, rv wa, .val .null, u_] [.ref oe]) st37 ?_
            refine own_sW T37 (mkF m 310 #[iv p0, iv p1, own_j p2, s_, rv ta, iv mo, iv x6, rv x7, rv wa, .val .null, u_] [.null, .ref oe]) (fun t k => XS.aconstNull X37.here hx rfl (hb hby at_309) k) ?_
            obtain ⟨cq54, kq54, q54a, q54b, q54c⟩ := isOf hZ rfl (E_oe.ext O36.2)
            obtain ⟨_, _, ⟨T53, L53, k53, n53⟩, -, X53, ⟨Lc53, hQ53, lq53, yq53, zq53⟩, st53⟩ := X37.virtualBack hx (y := (⟨"java/util/Optional", "orElse", "(Ljava/lang/Object;)Ljava/lang/Object;"⟩ : MethodName)) (z := (⟨"java/util/Optional", "orElse", "(Ljava/lang/Object;)Ljava/lang/Object;"⟩ : MethodName)) hown (mvT hZ (hW 121 _ rfl)) (mvT hZ (hW 122 _ rfl)) (notFace_of_selects (args := #[]) (mvT hZ (hW 124 _ rfl))) (mvT hZ (hW 124 _ rfl)) (mvT hZ (hW 123 _ rfl)) (by decide) (backOf (W := 0) (rm_oreN l Z a0 hw [] oe T37.heap n0 Z36 (F_oe.ext O36.2)) hZ (hW 125 _ rfl) (hW 106 _ rfl) (by decide) (by decide)) q54a q54c (g := (mkF m 310 #[iv p0, iv p1, own_j p2, s_, rv ta, iv mo, iv x6, rv x7, rv wa, .val .null, u_] [.null, .ref oe])) rfl (by rw [hml]; rfl) (Steps.refl _) (argsL := [.null]) (rest := []) (lenOf pd_12 rfl) rfl (by show 2 * 0 + _ ≤ _; exact Nat.le_of_eq rfl) (hb hby at_310) (fun _ _ => ⟨rfl, rfl, (by decide : 17 + 0 ≤ _), (by decide : 186 + 0 ≤ _)⟩)
            dsimp only [Pt.U, Pt.locs, Pt.cells, Pt.slots] at X53 lq53 yq53 zq53 st53 hQ53
            subst lq53 yq53 zq53
            obtain ⟨rfl, Nq53, eq52⟩ := hQ53
            have N53 := Fr.app N37 Nq53
            refine own_trW (T' := T53) (g' := (mkF m 313 #[iv p0, iv p1, own_j p2, s_, rv ta, iv mo, iv x6, rv x7, rv wa, .val .null, u_] [.null])) st53 ?_
            refine own_sW T53 (mkF m 316 #[iv p0, iv p1, own_j p2, s_, rv ta, iv mo, iv x6, rv x7, rv wa, .val .null, u_] [.null]) (checkcastNull X53 hx (g := (mkF m 313 #[iv p0, iv p1, own_j p2, s_, rv ta, iv mo, iv x6, rv x7, rv wa, .val .null, u_] [.null])) rfl rfl (hb hby at_313)) ?_
            refine own_sW T53 (mkF m 318 #[iv p0, iv p1, own_j p2, s_, rv ta, iv mo, iv x6, rv x7, rv wa, .val .null, .val .null] []) (fun t k => XS.astore X53.here hx rfl (hb hby at_316) rfl rfl (l' := #[iv p0, iv p1, own_j p2, s_, rv ta, iv mo, iv x6, rv x7, rv wa, .val .null, .val .null]) rfl k) ?_
            refine own_sW T53 (mkF m 320 #[iv p0, iv p1, own_j p2, s_, rv ta, iv mo, iv x6, rv x7, rv wa, .val .null, .val .null] [.null]) (fun t k => XS.aload X53.here hx rfl (hb hby at_318) rfl rfl k) ?_
            refine own_sW T53 (mkF m 322 #[iv p0, iv p1, own_j p2, s_, rv ta, iv mo, iv x6, rv x7, rv wa, .val .null, .val .null] [.null, .null]) (fun t k => XS.aload X53.here hx rfl (hb hby at_320) rfl rfl k) ?_
            refine own_sW T53 (mkF m 325 #[iv p0, iv p1, own_j p2, s_, rv ta, iv mo, iv x6, rv x7, rv wa, .val .null, .val .null] []) (fun t k => acmp (g := (mkF m 322 #[iv p0, iv p1, own_j p2, s_, rv ta, iv mo, iv x6, rv x7, rv wa, .val .null, .val .null] [.null, .null])) X53 hx rfl (x := .null) (y := .null) rfl rfl (pc0 := 322) (pc' := 325) (same := true) rfl (hb hby at_322) rfl (decide_eq_true rfl) (by decide) rfl k) ?_
            refine own_sW T53 (mkF m 326 #[iv p0, iv p1, own_j p2, s_, rv ta, iv mo, iv x6, rv x7, rv wa, .val .null, .val .null] [.int 1]) (fun t k => XS.iconst X53.here hx rfl (hb hby at_325) k) ?_
            refine own_sW T53 (mkF m 330 #[iv p0, iv p1, own_j p2, s_, rv ta, iv mo, iv x6, rv x7, rv wa, .val .null, .val .null] [.int 1]) (fun t k => XS.goto X53.here hx rfl (pc0 := 326) (pc' := 330) rfl (hb hby at_326) (by decide) (by decide) k) ?_
            refine own_rNW X53 hx hEL hZ S22 (by rw [eq52]; exact J50) (by rw [eq52]; exact C50) hlk Bd.returns (by simp) (hb hby at_330) ?_ (by decide) (by decide)
            rw [eq52]
            exact ⟨rfl, N53⟩
          · refine own_sW T33 (mkF m 299 #[iv p0, iv p1, own_j p2, s_, rv ta, iv mo, iv x6, rv x7, rv wa, .val .null, u_] []) (fun t k => XS.ifNo X33.here hx rfl (hb hby at_296) rfl ((if0 _ _).trans (feq c296).1) k) ?_
            obtain ⟨T55, X55, e55, st55⟩ := getS2 X33 hx hZ hown (host := "") (Or.inl (hW 134 _ rfl)) Via.refl eq32 (S_ei.ext O22.2) (g := (mkF m 299 #[iv p0, iv p1, own_j p2, s_, rv ta, iv mo, iv x6, rv x7, rv wa, .val .null, u_] [])) rfl (hb hby at_299)
            refine own_sW T55 (mkF m 302 #[iv p0, iv p1, own_j p2, s_, rv ta, iv mo, iv x6, rv x7, rv wa, .val .null, u_] [.ref ei]) st55 ?_
            refine own_sW T55 (mkF m 304 #[iv p0, iv p1, own_j p2, s_, rv ta, iv mo, iv x6, rv x7, rv wa, rv ei, u_] []) (fun t k => XS.astore X55.here hx rfl (hb hby at_302) rfl rfl (l' := #[iv p0, iv p1, own_j p2, s_, rv ta, iv mo, iv x6, rv x7, rv wa, rv ei, u_]) rfl k) ?_
            refine own_sW T55 (mkF m 306 #[iv p0, iv p1, own_j p2, s_, rv ta, iv mo, iv x6, rv x7, rv wa, rv ei, u_] [.ref wa]) (fun t k => XS.aload X55.here hx rfl (hb hby at_304) rfl rfl k) ?_
            obtain ⟨_, _, ⟨T60, L60, k60, n60⟩, -, X60, ⟨Lc60, hQ60, lq60, yq60, zq60⟩, st60⟩ := Jvm.LawKit.callS X55 hx (y := (⟨"com/example/umpire/umpire/xsts/Validity", "of", "(Ljava/lang/String;)Ljava/util/Optional;"⟩ : MethodName)) hown (mvT hZ (hW 82 _ rfl)) (mvT hZ (hW 83 _ rfl)) (mvT hZ (hW 80 _ rfl)) (mvT hZ (hW 84 _ rfl)) (by decide) (backOf (W := 0) (rm_ofI l Z a0 hw [] wa wb wk zn wl va vk ev ei sv bv kv si bi ki oe ic h22 n0 Z22 g23 g24 g25 g26 (OH246.ne E_sv.lt oH246_wa) (OH246.ne E_si.lt oH246_wa) O22 hform c278 c296 S_c hic S_oe S_vs E_va V_va E_ev F_ev E_sv C_sv F_sv V_bv E_ei F_ei E_si C_si F_si V_bi E_oe F_oe) hZ (hW 84 _ rfl) (hW 80 _ rfl) (by decide) (by decide)) (g := (mkF m 306 #[iv p0, iv p1, own_j p2, s_, rv ta, iv mo, iv x6, rv x7, rv wa, rv ei, u_] [.ref wa])) rfl (by rw [hml]; rfl) (argsL := [(.ref wa)]) (rest := []) (lenOf pd_18 rfl) rfl (by show 2 * 0 + _ ≤ _; exact Nat.le_of_eq rfl) (hb hby at_306) (fun _ _ => ⟨rfl, e55, (by decide : 16 + 2 ≤ _), (by decide : 184 + 3 ≤ _)⟩)
            dsimp only [Pt.U, Pt.locs, Pt.cells, Pt.slots] at X60 lq60 yq60 zq60 st60 hQ60
            subst lq60 yq60 zq60
            obtain ⟨ob_56, rfl, Nq60, K57, fz_ob_56, g58, g59⟩ := hQ60
            have N60 := Fr.app N33 Nq60
            have oz_ob_56 : n0 ≤ ob_56 := Nat.le_trans Z22 fz_ob_56
            have nz_wa_ob_56 : wa ≠ ob_56 := Nat.ne_of_lt (Nat.lt_of_lt_of_le g23.lt fz_ob_56)
            have nz_wb_ob_56 : wb ≠ ob_56 := Nat.ne_of_lt (Nat.lt_of_lt_of_le g26.lt fz_ob_56)
            have nz_sa13_ob_56 : sa13 ≠ ob_56 := Nat.ne_of_lt (Nat.lt_of_lt_of_le g27.lt fz_ob_56)
            have nz_sb13_ob_56 : sb13 ≠ ob_56 := Nat.ne_of_lt (Nat.lt_of_lt_of_le g30.lt fz_ob_56)
            have nz_sa22_ob_56 : sa22 ≠ ob_56 := Nat.ne_of_lt (Nat.lt_of_lt_of_le A22.lt fz_ob_56)
            have nz_sb22_ob_56 : sb22 ≠ ob_56 := Nat.ne_of_lt (Nat.lt_of_lt_of_le V22.lt fz_ob_56)
            have g61 := g23.keep K57
            have g62 := g24.keep K57 nin0
            have g63 := g25.keep K57 nin0
            have g64 := g26.keep K57 nin0
            have g65 := g27.keep K57
            have g66 := g28.keep K57 nin0
            have g67 := g29.keep K57 nin0
            have g68 := g30.keep K57 nin0
            have g69 := A22.keep K57
            have g70 := F22c.keep K57 nin0
            have g71 := F22v.keep K57 nin0
            have g72 := V22.keep K57 nin0
            have Z57 : n0 ≤ T60.heap.size := (Nat.le_trans Z22 K57.1)
            have O57 : Old Z n0 T60.heap := O22.keep K57 (all0 (P := fun x => n0 ≤ x))
            have C73 := C22.trans (CHr.keep K57 sf0 C22.1)
            have J73 := Nat.le_trans J22 K57.1
            have sf73_wa := Safe.keep K57 sf0 C22.1 sf22_wa
            refine own_sW T60 (mkF m 309 #[iv p0, iv p1, own_j p2, s_, rv ta, iv mo, iv x6, rv x7, rv wa, rv ei, u_] [.ref ob_56]) st60 ?_
            refine own_sW T60 (mkF m 310 #[iv p0, iv p1, own_j p2, s_, rv ta, iv mo, iv x6, rv x7, rv wa, rv ei, u_] [.null, .ref ob_56]) (fun t k => XS.aconstNull X60.here hx rfl (hb hby at_309) k) ?_
            obtain ⟨cq77, kq77, q77a, q77b, q77c⟩ := isOf hZ rfl g58
            obtain ⟨_, _, ⟨T76, L76, k76, n76⟩, -, X76, ⟨Lc76, hQ76, lq76, yq76, zq76⟩, st76⟩ := X60.virtualBack hx (y := (⟨"java/util/Optional", "orElse", "(Ljava/lang/Object;)Ljava/lang/Object;"⟩ : MethodName)) (z := (⟨"java/util/Optional", "orElse", "(Ljava/lang/Object;)Ljava/lang/Object;"⟩ : MethodName)) hown (mvT hZ (hW 121 _ rfl)) (mvT hZ (hW 122 _ rfl)) (notFace_of_selects (args := #[]) (mvT hZ (hW 124 _ rfl))) (mvT hZ (hW 124 _ rfl)) (mvT hZ (hW 123 _ rfl)) (by decide) (backOf (W := 0) (rm_oreR l Z a0 hw [] ob_56 ei T60.heap n0 Z57 g59) hZ (hW 125 _ rfl) (hW 106 _ rfl) (by decide) (by decide)) q77a q77c (g := (mkF m 310 #[iv p0, iv p1, own_j p2, s_, rv ta, iv mo, iv x6, rv x7, rv wa, rv ei, u_] [.null, .ref ob_56])) rfl (by rw [hml]; rfl) (Steps.refl _) (argsL := [.null]) (rest := []) (lenOf pd_12 rfl) rfl (by show 2 * 0 + _ ≤ _; exact Nat.le_of_eq rfl) (hb hby at_310) (fun _ _ => ⟨rfl, rfl, (by decide : 18 + 0 ≤ _), (by decide : 187 + 0 ≤ _)⟩)
            dsimp only [Pt.U, Pt.locs, Pt.cells, Pt.slots] at X76 lq76 yq76 zq76 st76 hQ76
            subst lq76 yq76 zq76
            obtain ⟨rfl, Nq76, eq75⟩ := hQ76
            have N76 := Fr.app N60 Nq76
            refine own_trW (T' := T76) (g' := (mkF m 313 #[iv p0, iv p1, own_j p2, s_, rv ta, iv mo, iv x6, rv x7, rv wa, rv ei, u_] [.ref ei])) st76 ?_
            obtain ⟨T78, X78, e78, st78⟩ := castY X76 hx hZ hown (hW 126 _ rfl) eq75 (Ins.self (E_ei.ext O57.2)) (g := (mkF m 313 #[iv p0, iv p1, own_j p2, s_, rv ta, iv mo, iv x6, rv x7, rv wa, rv ei, u_] [.ref ei])) rfl rfl (hb hby at_313)
            refine own_sW T78 (mkF m 316 #[iv p0, iv p1, own_j p2, s_, rv ta, iv mo, iv x6, rv x7, rv wa, rv ei, u_] [.ref ei]) st78 ?_
            refine own_sW T78 (mkF m 318 #[iv p0, iv p1, own_j p2, s_, rv ta, iv mo, iv x6, rv x7, rv wa, rv ei, rv ei] []) (fun t k => XS.astore X78.here hx rfl (hb hby at_316) rfl rfl (l' := #[iv p0, iv p1, own_j p2, s_, rv ta, iv mo, iv x6, rv x7, rv wa, rv ei, rv ei]) rfl k) ?_
            refine own_sW T78 (mkF m 320 #[iv p0, iv p1, own_j p2, s_, rv ta, iv mo, iv x6, rv x7, rv wa, rv ei, rv ei] [.ref ei]) (fun t k => XS.aload X78.here hx rfl (hb hby at_318) rfl rfl k) ?_
            refine own_sW T78 (mkF m 322 #[iv p0, iv p1, own_j p2, s_, rv ta, iv mo, iv x6, rv x7, rv wa, rv ei, rv ei] [.ref ei, .ref ei]) (fun t k => XS.aload X78.here hx rfl (hb hby at_320) rfl rfl k) ?_
            refine own_sW T78 (mkF m 325 #[iv p0, iv p1, own_j p2, s_, rv ta, iv mo, iv x6, rv x7, rv wa, rv ei, rv ei] []) (fun t k => acmp (g := (mkF m 322 #[iv p0, iv p1, own_j p2, s_, rv ta, iv mo, iv x6, rv x7, rv wa, rv ei, rv ei] [.ref ei, .ref ei])) X78 hx rfl (x := (.ref ei)) (y := (.ref ei)) rfl rfl (pc0 := 322) (pc' := 325) (same := true) rfl (hb hby at_322) rfl (decide_eq_true rfl) (by decide) rfl k) ?_
            refine own_sW T78 (mkF m 326 #[iv p0, iv p1, own_j p2, s_, rv ta, iv mo, iv x6, rv x7, rv wa, rv ei, rv ei] [.int 1]) (fun t k => XS.iconst X78.here hx rfl (hb hby at_325) k) ?_
            refine own_sW T78 (mkF m 330 #[iv p0, iv p1, own_j p2, s_, rv ta, iv mo, iv x6, rv x7, rv wa, rv ei, rv ei] [.int 1]) (fun t k => XS.goto X78.here hx rfl (pc0 := 326) (pc' := 330) rfl (hb hby at_326) (by decide) (by decide) k) ?_
            refine own_rNW X78 hx hEL hZ S22 (by rw [e78]; exact J73) (by rw [e78]; exact C73) hlk Bd.returns (by simp) (hb hby at_330) ?_ (by decide) (by decide)
            rw [e78]
            exact ⟨rfl, N76⟩
        · refine own_sW T20 (mkF m 281 #[iv p0, iv p1, own_j p2, s_, rv ta, iv mo, iv x6, rv x7, rv wa, .val .null, u_] []) (fun t k => XS.ifNo X20.here hx rfl (hb hby at_278) rfl ((if0 _ _).trans (feq c278).1) k) ?_
          obtain ⟨T79, X79, e79, st79⟩ := getS2 X20 hx hZ hown (host := "") (Or.inl (hW 79 _ rfl)) Via.refl eq19 (S_ev.ext O13.2) (g := (mkF m 281 #[iv p0, iv p1, own_j p2, s_, rv ta, iv mo, iv x6, rv x7, rv wa, .val .null, u_] [])) rfl (hb hby at_281)
          refine own_sW T79 (mkF m 284 #[iv p0, iv p1, own_j p2, s_, rv ta, iv mo, iv x6, rv x7, rv wa, .val .null, u_] [.ref ev]) st79 ?_
          refine own_sW T79 (mkF m 286 #[iv p0, iv p1, own_j p2, s_, rv ta, iv mo, iv x6, rv x7, rv wa, rv ev, u_] []) (fun t k => XS.astore X79.here hx rfl (hb hby at_284) rfl rfl (l' := #[iv p0, iv p1, own_j p2, s_, rv ta, iv mo, iv x6, rv x7, rv wa, rv ev, u_]) rfl k) ?_
          refine own_sW T79 (mkF m 304 #[iv p0, iv p1, own_j p2, s_, rv ta, iv mo, iv x6, rv x7, rv wa, rv ev, u_] []) (fun t k => XS.goto X79.here hx rfl (pc0 := 286) (pc' := 304) rfl (hb hby at_286) (by decide) (by decide) k) ?_
          refine own_sW T79 (mkF m 306 #[iv p0, iv p1, own_j p2, s_, rv ta, iv mo, iv x6, rv x7, rv wa, rv ev, u_] [.ref wa]) (fun t k => XS.aload X79.here hx rfl (hb hby at_304) rfl rfl k) ?_
          obtain ⟨_, _, ⟨T84, L84, k84, n84⟩, -, X84, ⟨Lc84, hQ84, lq84, yq84, zq84⟩, st84⟩ := Jvm.LawKit.callS X79 hx (y := (⟨"com/example/umpire/umpire/xsts/Validity", "of", "(Ljava/lang/String;)Ljava/util/Optional;"⟩ : MethodName)) hown (mvT hZ (hW 82 _ rfl)) (mvT hZ (hW 83 _ rfl)) (mvT hZ (hW 80 _ rfl)) (mvT hZ (hW 84 _ rfl)) (by decide) (backOf (W := 0) (rm_ofV l Z a0 hw [] wa wb wk zn wl va vk ev ei sv bv kv si bi ki oe ic h13 n0 Z13 g14 g15 g16 g17 (OH246.ne E_sv.lt oH246_wa) (OH246.ne E_si.lt oH246_wa) O13 hform c278 S_c hic S_oe S_vs E_va V_va E_ev F_ev E_sv C_sv F_sv V_bv E_ei F_ei E_si C_si F_si V_bi E_oe F_oe) hZ (hW 84 _ rfl) (hW 80 _ rfl) (by decide) (by decide)) (g := (mkF m 306 #[iv p0, iv p1, own_j p2, s_, rv ta, iv mo, iv x6, rv x7, rv wa, rv ev, u_] [.ref wa])) rfl (by rw [hml]; rfl) (argsL := [(.ref wa)]) (rest := []) (lenOf pd_18 rfl) rfl (by show 2 * 0 + _ ≤ _; exact Nat.le_of_eq rfl) (hb hby at_306) (fun _ _ => ⟨rfl, e79, (by decide : 14 + 2 ≤ _), (by decide : 152 + 3 ≤ _)⟩)
          dsimp only [Pt.U, Pt.locs, Pt.cells, Pt.slots] at X84 lq84 yq84 zq84 st84 hQ84
          subst lq84 yq84 zq84
          obtain ⟨ob_80, rfl, Nq84, K81, fz_ob_80, g82, g83⟩ := hQ84
          have N84 := Fr.app N20 Nq84
          have oz_ob_80 : n0 ≤ ob_80 := Nat.le_trans Z13 fz_ob_80
          have nz_wa_ob_80 : wa ≠ ob_80 := Nat.ne_of_lt (Nat.lt_of_lt_of_le g14.lt fz_ob_80)
          have nz_wb_ob_80 : wb ≠ ob_80 := Nat.ne_of_lt (Nat.lt_of_lt_of_le g17.lt fz_ob_80)
          have nz_sa13_ob_80 : sa13 ≠ ob_80 := Nat.ne_of_lt (Nat.lt_of_lt_of_le A13.lt fz_ob_80)
          have nz_sb13_ob_80 : sb13 ≠ ob_80 := Nat.ne_of_lt (Nat.lt_of_lt_of_le V13.lt fz_ob_80)
          have g85 := g14.keep K81
          have g86 := g15.keep K81 nin0
          have g87 := g16.keep K81 nin0
          have g88 := g17.keep K81 nin0
          have g89 := A13.keep K81
          have g90 := F13c.keep K81 nin0
          have g91 := F13v.keep K81 nin0
          have g92 := V13.keep K81 nin0
          have Z81 : n0 ≤ T84.heap.size := (Nat.le_trans Z13 K81.1)
          have O81 : Old Z n0 T84.heap := O13.keep K81 (all0 (P := fun x => n0 ≤ x))
          have C93 := C13.trans (CHr.keep K81 sf0 C13.1)
          have J93 := Nat.le_trans J13 K81.1
          have sf93_wa := Safe.keep K81 sf0 C13.1 sf13_wa
          refine own_sW T84 (mkF m 309 #[iv p0, iv p1, own_j p2, s_, rv ta, iv mo, iv x6, rv x7, rv wa, rv ev, u_] [.ref ob_80]) st84 ?_
          refine own_sW T84 (mkF m 310 #[iv p0, iv p1, own_j p2, s_, rv ta, iv mo, iv x6, rv x7, rv wa, rv ev, u_] [.null, .ref ob_80]) (fun t k => XS.aconstNull X84.here hx rfl (hb hby at_309) k) ?_
          obtain ⟨cq97, kq97, q97a, q97b, q97c⟩ := isOf hZ rfl g82
          obtain ⟨_, _, ⟨T96, L96, k96, n96⟩, -, X96, ⟨Lc96, hQ96, lq96, yq96, zq96⟩, st96⟩ := X84.virtualBack hx (y := (⟨"java/util/Optional", "orElse", "(Ljava/lang/Object;)Ljava/lang/Object;"⟩ : MethodName)) (z := (⟨"java/util/Optional", "orElse", "(Ljava/lang/Object;)Ljava/lang/Object;"⟩ : MethodName)) hown (mvT hZ (hW 121 _ rfl)) (mvT hZ (hW 122 _ rfl)) (notFace_of_selects (args := #[]) (mvT hZ (hW 124 _ rfl))) (mvT hZ (hW 124 _ rfl)) (mvT hZ (hW 123 _ rfl)) (by decide) (backOf (W := 0) (rm_oreR l Z a0 hw [] ob_80 ev T84.heap n0 Z81 g83) hZ (hW 125 _ rfl) (hW 106 _ rfl) (by decide) (by decide)) q97a q97c (g := (mkF m 310 #[iv p0, iv p1, own_j p2, s_, rv ta, iv mo, iv x6, rv x7, rv wa, rv ev, u_] [.null, .ref ob_80])) rfl (by rw [hml]; rfl) (Steps.refl _) (argsL := [.null]) (rest := []) (lenOf pd_12 rfl) rfl (by show 2 * 0 + _ ≤ _; exact Nat.le_of_eq rfl) (hb hby at_310) (fun _ _ => ⟨rfl, rfl, (by decide : 16 + 0 ≤ _), (by decide : 155 + 0 ≤ _)⟩)
          dsimp only [Pt.U, Pt.locs, Pt.cells, Pt.slots] at X96 lq96 yq96 zq96 st96 hQ96
          subst lq96 yq96 zq96
          obtain ⟨rfl, Nq96, eq95⟩ := hQ96
          have N96 := Fr.app N84 Nq96
          refine own_trW (T' := T96) (g' := (mkF m 313 #[iv p0, iv p1, own_j p2, s_, rv ta, iv mo, iv x6, rv x7, rv wa, rv ev, u_] [.ref ev])) st96 ?_
          obtain ⟨T98, X98, e98, st98⟩ := castY X96 hx hZ hown (hW 126 _ rfl) eq95 (Ins.self (E_ev.ext O81.2)) (g := (mkF m 313 #[iv p0, iv p1, own_j p2, s_, rv ta, iv mo, iv x6, rv x7, rv wa, rv ev, u_] [.ref ev])) rfl rfl (hb hby at_313)
          refine own_sW T98 (mkF m 316 #[iv p0, iv p1, own_j p2, s_, rv ta, iv mo, iv x6, rv x7, rv wa, rv ev, u_] [.ref ev]) st98 ?_
          refine own_sW T98 (mkF m 318 #[iv p0, iv p1, own_j p2, s_, rv ta, iv mo, iv x6, rv x7, rv wa, rv ev, rv ev] []) (fun t k => XS.astore X98.here hx rfl (hb hby at_316) rfl rfl (l' := #[iv p0, iv p1, own_j p2, s_, rv ta, iv mo, iv x6, rv x7, rv wa, rv ev, rv ev]) rfl k) ?_
          refine own_sW T98 (mkF m 320 #[iv p0, iv p1, own_j p2, s_, rv ta, iv mo, iv x6, rv x7, rv wa, rv ev, rv ev] [.ref ev]) (fun t k => XS.aload X98.here hx rfl (hb hby at_318) rfl rfl k) ?_
          refine own_sW T98 (mkF m 322 #[iv p0, iv p1, own_j p2, s_, rv ta, iv mo, iv x6, rv x7, rv wa, rv ev, rv ev] [.ref ev, .ref ev]) (fun t k => XS.aload X98.here hx rfl (hb hby at_320) rfl rfl k) ?_
          refine own_sW T98 (mkF m 325 #[iv p0, iv p1, own_j p2, s_, rv ta, iv mo, iv x6, rv x7, rv wa, rv ev, rv ev] []) (fun t k => acmp (g := (mkF m 322 #[iv p0, iv p1, own_j p2, s_, rv ta, iv mo, iv x6, rv x7, rv wa, rv ev, rv ev] [.ref ev, .ref ev])) X98 hx rfl (x := (.ref ev)) (y := (.ref ev)) rfl rfl (pc0 := 322) (pc' := 325) (same := true) rfl (hb hby at_322) rfl (decide_eq_true rfl) (by decide) rfl k) ?_
          refine own_sW T98 (mkF m 326 #[iv p0, iv p1, own_j p2, s_, rv ta, iv mo, iv x6, rv x7, rv wa, rv ev, rv ev] [.int 1]) (fun t k => XS.iconst X98.here hx rfl (hb hby at_325) k) ?_
          refine own_sW T98 (mkF m 330 #[iv p0, iv p1, own_j p2, s_, rv ta, iv mo, iv x6, rv x7, rv wa, rv ev, rv ev] [.int 1]) (fun t k => XS.goto X98.here hx rfl (pc0 := 326) (pc' := 330) rfl (hb hby at_326) (by decide) (by decide) k) ?_
          refine own_rNW X98 hx hEL hZ S13 (by rw [e98]; exact J93) (by rw [e98]; exact C93) hlk Bd.returns (by simp) (hb hby at_330) ?_ (by decide) (by decide)
          rw [e98]
          exact ⟨rfl, N96⟩
    have j237 : ∀ (cb : Addr) (ck : ClassId) (cn : Int32) (cs : List Value) (x6 : Int32) (vmH237 : Vm) (kH237 : Nat) (TH237 : State) (hH237 : Heap) (lH237 : List Loc) (_ : Stand p l e room_1 (s.setVm vmH237) m #[(.int p0), (.int p1), (.long p2)] below meth c TH237 lH237 3 40) (_ : Z.Warmed39 (s.setVm vmH237).vm) (_ : (s.setVm vmH237).vm.findClass "com/example/umpire/umpire/xsts/ValidityOfPinLaw" = some m.cls) (_ : TH237.heap = hH237) (_ : Fr n0 lH237) (_ : n0 ≤ hH237.size) (_ : s.Since vmH237 kH237) (_ : kH237 ≤ hH237.size) (_ : CHr Z own_EL s.vm s.heap vmH237 hH237) (_ : Old Z n0 hH237) (_ : Arv Z hH237 cb ck .char cn cs (.int (0 : Int32))) (_ : Safe Z own_EL vmH237 hH237 cb) (_ : n0 ≤ cb), own_fc cn cs → own_GoW Z own_EL p e below s (Q_law n0) 24 3200 TH237 (mkF m 237 #[iv p0, iv p1, own_j p2, s_, rv ta, iv mo, iv x6, rv cb, u_, u_, u_] []) := by
      intro cb ck cn cs x6 vmH237 kH237 TH237 hH237 lH237 XH237 hZ hown eH237 NH237 ZH237 SH237 JH237 CH237 OH237 f0H237 sfH237_cb oH237_cb hfc
      obtain ⟨T99, h99, X99, e99, E99, A99, D99, -, st99⟩ := newO XH237 hx hZ hown (hW 49 _ rfl) (hW 2 _ rfl) (hW 1 _ rfl) eH237 (g := (mkF m 237 #[iv p0, iv p1, own_j p2, s_, rv ta, iv mo, iv x6, rv cb, u_, u_, u_] [])) rfl (hb hby at_237) (by decide : 3 + 1 ≤ _) (by decide : 40 + 4 ≤ _)
      obtain ⟨ad99, g_ad99⟩ : ∃ z, z = hH237.size := ⟨_, rfl⟩
      rw [← g_ad99] at A99 D99 st99
      have g100 := f0H237.ext E99
      have ne99_1 : cb ≠ ad99 := Nat.ne_of_lt (by rw [g_ad99]; exact f0H237.lt)
      have o99 : n0 ≤ ad99 := (Nat.le_trans ZH237 (Nat.le_of_eq g_ad99.symm))
      have Z99 : n0 ≤ h99.size := (Nat.le_trans ZH237 E99.1)
      have O99 : Old Z n0 h99 := OH237.ext E99
      have C101 := CH237.trans (CHr.ext E99 CH237.1)
      have J101 := Nat.le_trans JH237 E99.1
      have sf101_cb := Safe.ext E99 CH237.1 sfH237_cb
      have sf101_ad99 : Safe Z own_EL _ h99 ad99 := Safe.ext E99 CH237.1 (Safe.new (Nat.le_of_eq g_ad99.symm))
      have g102 : Fld Z h99 ad99 "java/lang/String" "value" "[B" .null := D99 (Or.inr (hW 4 _ rfl)) (ty := .array .byte) (by decide)
      have g103 : Fld Z h99 ad99 "java/lang/String" "coder" "B" (.int (0 : Int32)) := D99 (Or.inr (hW 5 _ rfl)) (ty := .byte) (by decide)
      refine own_sW T99 (mkF m 240 #[iv p0, iv p1, own_j p2, s_, rv ta, iv mo, iv x6, rv cb, u_, u_, u_] [.ref ad99]) st99 ?_
      refine own_sW T99 (mkF m 241 #[iv p0, iv p1, own_j p2, s_, rv ta, iv mo, iv x6, rv cb, u_, u_, u_] [.ref ad99, .ref ad99]) (fun t k => XS.dup X99.here hx rfl (hb hby at_240) rfl rfl k) ?_
      refine own_sW T99 (mkF m 243 #[iv p0, iv p1, own_j p2, s_, rv ta, iv mo, iv x6, rv cb, u_, u_, u_] [.ref cb, .ref ad99, .ref ad99]) (fun t k => XS.aload X99.here hx rfl (hb hby at_241) rfl rfl k) ?_
      obtain ⟨_, _, ⟨T110, L110, k110, n110⟩, -, X110, ⟨Lc110, hQ110, lq110, yq110, zq110⟩, st110⟩ := X99.specialBack hx (y := (⟨"java/lang/String", "<init>", "([C)V"⟩ : MethodName)) rfl hown (mvT hZ (hW 50 _ rfl)) (mvT hZ (hW 51 _ rfl)) (mvT hZ (hW 52 _ rfl)) (by decide) (backOf (W := 1) (rm_s1 l Z a0 hw [] ad99 cb ck cn cs .null (.int (0 : Int32)) ic h99 n0 Z99 A99 g102 g103 g100 o99 (Ne.symm ne99_1) O99 hfc S_c hic) hZ (hW 52 _ rfl) (hW 1 _ rfl) (by decide) (by decide)) (g := (mkF m 243 #[iv p0, iv p1, own_j p2, s_, rv ta, iv mo, iv x6, rv cb, u_, u_, u_] [.ref cb, .ref ad99, .ref ad99])) rfl (by rw [hml]; rfl) (Steps.refl _) (a := ad99) (argsL := [(.ref cb)]) (rest := [(.ref ad99)]) (lenOf pd_19 rfl) rfl (by show 2 * 0 + _ ≤ _; exact Nat.le_of_eq rfl) (hb hby at_243) (fun _ _ => ⟨rfl, e99, (by decide : 4 + 1 ≤ _), (by decide : 44 + 8 ≤ _)⟩)
      dsimp only [Pt.U, Pt.locs, Pt.cells, Pt.slots] at X110 lq110 yq110 zq110 st110 hQ110
      subst lq110 yq110 zq110
      obtain ⟨b_104, kb_104, wl_104, rfl, Nq110, K105, fz_b_104, nz_ad99_b_104, g106, g107, g108, g109, pz105⟩ := hQ110
      have N110 := Fr.app NH237 Nq110
      have oz_b_104 : n0 ≤ b_104 := Nat.le_trans Z99 fz_b_104
      have nz_cb_b_104 : cb ≠ b_104 := Nat.ne_of_lt (Nat.lt_of_lt_of_le g100.lt fz_b_104)
      have nz_ad99_b_104 : ad99 ≠ b_104 := Nat.ne_of_lt (Nat.lt_of_lt_of_le A99.lt fz_b_104)
      have g111 := g100.keep K105 (ninS ne99_1 nin0)
      have Z105 : n0 ≤ T110.heap.size := (Nat.le_trans Z99 K105.1)
      have O105 : Old Z n0 T110.heap := O99.keep K105 (allS (P := fun x => n0 ≤ x) o99 all0)
      have C112 := C101.trans (CHr.keep K105 (sfS sf101_ad99 sf0) C101.1)
      have J112 := Nat.le_trans J101 K105.1
      have sf112_cb := Safe.keep K105 (sfS sf101_ad99 sf0) C101.1 sf101_cb
      have sf112_ad99 := Safe.keep K105 (sfS sf101_ad99 sf0) C101.1 sf101_ad99
      refine own_trW (T' := T110) (g' := (mkF m 246 #[iv p0, iv p1, own_j p2, s_, rv ta, iv mo, iv x6, rv cb, u_, u_, u_] [.ref ad99])) st110 ?_
      exact j246 ad99 b_104 kb_104 cn wl_104 x6 cb _ _ T110 T110.heap _ (X110.mono (by decide) (by decide)) hZ hown rfl N110 Z105 SH237 J112 C112 O105 g106 g108 g107 g109 sf112_ad99 o99 pz105
    have j82 : ∀ (TJ82 : State) (lJ82 : List Loc) (_ : Stand p l e room_1 (s.setVm vmH13) m #[(.int p0), (.int p1), (.long p2)] below meth c TJ82 lJ82 2 32) (_ : TJ82.heap = hH13) (_ : Fr n0 lJ82) (n82 : Int32), own_N n82 → own_GoW Z own_EL p e below s (Q_law n0) 24 3200 TJ82 (mkF m 82 #[iv p0, iv p1, own_j p2, s_, rv ta, iv mo, iv n82, u_, u_, u_, u_] []) := by
      intro TJ82 lJ82 XJ82 eJ82 NJ82 n82 hn
      rcases hn with rfl | rfl | rfl | rfl | rfl | rfl | rfl | rfl | rfl
      · refine own_sW TJ82 (mkF m 84 #[iv p0, iv p1, own_j p2, s_, rv ta, iv mo, iv 0, u_, u_, u_, u_] [.int 0]) (fun t k => XS.iload XJ82.here hx rfl (hb hby at_82) rfl k) ?_
        obtain ⟨T113, h113, k113, X113, e113, E113, A113, st113⟩ := newP XJ82 hx hZ (hW 21 _ rfl) eJ82 (g := (mkF m 84 #[iv p0, iv p1, own_j p2, s_, rv ta, iv mo, iv 0, u_, u_, u_, u_] [.int 0])) rfl (hb hby at_84) rfl (by decide) (cap := 0) (by decide) (by decide) (by decide : 2 + 1 ≤ _) (by decide : 32 + 0 ≤ _)
        obtain ⟨ad113, g_ad113⟩ : ∃ z, z = hH13.size := ⟨_, rfl⟩
        rw [← g_ad113] at A113 st113
        have g114 := f0H13.ext E113
        have g115 := f1H13.ext E113
        have g116 := f2H13.ext E113
        have g117 := f3H13.ext E113
        have ne113_1 : ta ≠ ad113 := Nat.ne_of_lt (by rw [g_ad113]; exact f0H13.lt)
        have ne113_2 : tb ≠ ad113 := Nat.ne_of_lt (by rw [g_ad113]; exact f3H13.lt)
        have o113 : n0 ≤ ad113 := (Nat.le_trans ZH13 (Nat.le_of_eq g_ad113.symm))
        have Z113 : n0 ≤ h113.size := (Nat.le_trans ZH13 E113.1)
        have O113 : Old Z n0 h113 := OH13.ext E113
        have C118 := CH13.trans (CHr.ext E113 CH13.1)
        have J118 := Nat.le_trans JH13 E113.1
        have sf118_ad113 : Safe Z own_EL _ h113 ad113 := Safe.ext E113 CH13.1 (Safe.new (Nat.le_of_eq g_ad113.symm))
        have V113 : Arv Z h113 ad113 k113 .char (0 : Int32) [] (.int (0 : Int32)) := (Arv.new A113 (by decide)).pad (pad_rep [] (.int (0 : Int32)) 0)
        refine own_sW T113 (mkF m 86 #[iv p0, iv p1, own_j p2, s_, rv ta, iv mo, iv 0, u_, u_, u_, u_] [.ref ad113]) st113 ?_
        refine own_sW T113 (mkF m 88 #[iv p0, iv p1, own_j p2, s_, rv ta, iv mo, iv 0, rv ad113, u_, u_, u_] []) (fun t k => XS.astore X113.here hx rfl (hb hby at_86) rfl rfl (l' := #[iv p0, iv p1, own_j p2, s_, rv ta, iv mo, iv 0, rv ad113, u_, u_, u_]) rfl k) ?_
        refine own_sW T113 (mkF m 90 #[iv p0, iv p1, own_j p2, s_, rv ta, iv mo, iv 0, rv ad113, u_, u_, u_] [.int 0]) (fun t k => XS.iload X113.here hx rfl (hb hby at_88) rfl k) ?_
        refine own_sW T113 (mkF m 105 #[iv p0, iv p1, own_j p2, s_, rv ta, iv mo, iv 0, rv ad113, u_, u_, u_] []) (fun t k => XS.ifYes X113.here hx rfl (pc0 := 90) (pc' := 105) rfl (hb hby at_90) rfl ((if0 _ _).trans (flt (by decide : ¬ ((0 : Int32) < (0 : Int32)))).2.2.2) (by decide) (by decide) k) ?_
        refine own_sW T113 (mkF m 107 #[iv p0, iv p1, own_j p2, s_, rv ta, iv mo, iv 0, rv ad113, u_, u_, u_] [.int 0]) (fun t k => XS.iload X113.here hx rfl (hb hby at_105) rfl k) ?_
        refine own_sW T113 (mkF m 108 #[iv p0, iv p1, own_j p2, s_, rv ta, iv mo, iv 0, rv ad113, u_, u_, u_] [.int 1, .int 0]) (fun t k => XS.iconst X113.here hx rfl (hb hby at_107) k) ?_
        refine own_sW T113 (mkF m 123 #[iv p0, iv p1, own_j p2, s_, rv ta, iv mo, iv 0, rv ad113, u_, u_, u_] []) (fun t k => XS.icmpYes X113.here hx rfl (pc0 := 108) (pc' := 123) rfl (hb hby at_108) rfl (flt (by decide : ¬ ((1 : Int32) < (0 : Int32)))).2.2.2 (by decide) (by decide) k) ?_
        refine own_sW T113 (mkF m 125 #[iv p0, iv p1, own_j p2, s_, rv ta, iv mo, iv 0, rv ad113, u_, u_, u_] [.int 0]) (fun t k => XS.iload X113.here hx rfl (hb hby at_123) rfl k) ?_
        refine own_sW T113 (mkF m 126 #[iv p0, iv p1, own_j p2, s_, rv ta, iv mo, iv 0, rv ad113, u_, u_, u_] [.int 2, .int 0]) (fun t k => XS.iconst X113.here hx rfl (hb hby at_125) k) ?_
        refine own_sW T113 (mkF m 141 #[iv p0, iv p1, own_j p2, s_, rv ta, iv mo, iv 0, rv ad113, u_, u_, u_] []) (fun t k => XS.icmpYes X113.here hx rfl (pc0 := 126) (pc' := 141) rfl (hb hby at_126) rfl (flt (by decide : ¬ ((2 : Int32) < (0 : Int32)))).2.2.2 (by decide) (by decide) k) ?_
        refine own_sW T113 (mkF m 143 #[iv p0, iv p1, own_j p2, s_, rv ta, iv mo, iv 0, rv ad113, u_, u_, u_] [.int 0]) (fun t k => XS.iload X113.here hx rfl (hb hby at_141) rfl k) ?_
        refine own_sW T113 (mkF m 144 #[iv p0, iv p1, own_j p2, s_, rv ta, iv mo, iv 0, rv ad113, u_, u_, u_] [.int 3, .int 0]) (fun t k => XS.iconst X113.here hx rfl (hb hby at_143) k) ?_
        refine own_sW T113 (mkF m 159 #[iv p0, iv p1, own_j p2, s_, rv ta, iv mo, iv 0, rv ad113, u_, u_, u_] []) (fun t k => XS.icmpYes X113.here hx rfl (pc0 := 144) (pc' := 159) rfl (hb hby at_144) rfl (flt (by decide : ¬ ((3 : Int32) < (0 : Int32)))).2.2.2 (by decide) (by decide) k) ?_
        refine own_sW T113 (mkF m 161 #[iv p0, iv p1, own_j p2, s_, rv ta, iv mo, iv 0, rv ad113, u_, u_, u_] [.int 0]) (fun t k => XS.iload X113.here hx rfl (hb hby at_159) rfl k) ?_
        refine own_sW T113 (mkF m 162 #[iv p0, iv p1, own_j p2, s_, rv ta, iv mo, iv 0, rv ad113, u_, u_, u_] [.int 4, .int 0]) (fun t k => XS.iconst X113.here hx rfl (hb hby at_161) k) ?_
        refine own_sW T113 (mkF m 177 #[iv p0, iv p1, own_j p2, s_, rv ta, iv mo, iv 0, rv ad113, u_, u_, u_] []) (fun t k => XS.icmpYes X113.here hx rfl (pc0 := 162) (pc' := 177) rfl (hb hby at_162) rfl (flt (by decide : ¬ ((4 : Int32) < (0 : Int32)))).2.2.2 (by decide) (by decide) k) ?_
        refine own_sW T113 (mkF m 179 #[iv p0, iv p1, own_j p2, s_, rv ta, iv mo, iv 0, rv ad113, u_, u_, u_] [.int 0]) (fun t k => XS.iload X113.here hx rfl (hb hby at_177) rfl k) ?_
        refine own_sW T113 (mkF m 180 #[iv p0, iv p1, own_j p2, s_, rv ta, iv mo, iv 0, rv ad113, u_, u_, u_] [.int 5, .int 0]) (fun t k => XS.iconst X113.here hx rfl (hb hby at_179) k) ?_
        refine own_sW T113 (mkF m 195 #[iv p0, iv p1, own_j p2, s_, rv ta, iv mo, iv 0, rv ad113, u_, u_, u_] []) (fun t k => XS.icmpYes X113.here hx rfl (pc0 := 180) (pc' := 195) rfl (hb hby at_180) rfl (flt (by decide : ¬ ((5 : Int32) < (0 : Int32)))).2.2.2 (by decide) (by decide) k) ?_
        refine own_sW T113 (mkF m 197 #[iv p0, iv p1, own_j p2, s_, rv ta, iv mo, iv 0, rv ad113, u_, u_, u_] [.int 0]) (fun t k => XS.iload X113.here hx rfl (hb hby at_195) rfl k) ?_
        refine own_sW T113 (mkF m 199 #[iv p0, iv p1, own_j p2, s_, rv ta, iv mo, iv 0, rv ad113, u_, u_, u_] [.int 6, .int 0]) (fun t k => XS.bipush X113.here hx rfl (hb hby at_197) k) ?_
        refine own_sW T113 (mkF m 216 #[iv p0, iv p1, own_j p2, s_, rv ta, iv mo, iv 0, rv ad113, u_, u_, u_] []) (fun t k => XS.icmpYes X113.here hx rfl (pc0 := 199) (pc' := 216) rfl (hb hby at_199) rfl (flt (by decide : ¬ ((6 : Int32) < (0 : Int32)))).2.2.2 (by decide) (by decide) k) ?_
        refine own_sW T113 (mkF m 218 #[iv p0, iv p1, own_j p2, s_, rv ta, iv mo, iv 0, rv ad113, u_, u_, u_] [.int 0]) (fun t k => XS.iload X113.here hx rfl (hb hby at_216) rfl k) ?_
        refine own_sW T113 (mkF m 220 #[iv p0, iv p1, own_j p2, s_, rv ta, iv mo, iv 0, rv ad113, u_, u_, u_] [.int 7, .int 0]) (fun t k => XS.bipush X113.here hx rfl (hb hby at_218) k) ?_
        refine own_sW T113 (mkF m 237 #[iv p0, iv p1, own_j p2, s_, rv ta, iv mo, iv 0, rv ad113, u_, u_, u_] []) (fun t k => XS.icmpYes X113.here hx rfl (pc0 := 220) (pc' := 237) rfl (hb hby at_220) rfl (flt (by decide : ¬ ((7 : Int32) < (0 : Int32)))).2.2.2 (by decide) (by decide) k) ?_
        obtain ⟨T119, h119, X119, e119, E119, A119, D119, -, st119⟩ := newO X113 hx hZ hown (hW 49 _ rfl) (hW 2 _ rfl) (hW 1 _ rfl) e113 (g := (mkF m 237 #[iv p0, iv p1, own_j p2, s_, rv ta, iv mo, iv 0, rv ad113, u_, u_, u_] [])) rfl (hb hby at_237) (by decide : 3 + 1 ≤ _) (by decide : 32 + 4 ≤ _)
        obtain ⟨ad119, g_ad119⟩ : ∃ z, z = h113.size := ⟨_, rfl⟩
        rw [← g_ad119] at A119 D119 st119
        have g120 := g114.ext E119
        have g121 := g115.ext E119
        have g122 := g116.ext E119
        have g123 := g117.ext E119
        have g124 := V113.ext E119
        have ne119_1 : ta ≠ ad119 := Nat.ne_of_lt (by rw [g_ad119]; exact g114.lt)
        have ne119_2 : tb ≠ ad119 := Nat.ne_of_lt (by rw [g_ad119]; exact g117.lt)
        have ne119_3 : ad113 ≠ ad119 := Nat.ne_of_lt (by rw [g_ad119]; exact V113.lt)
        have o119 : n0 ≤ ad119 := (Nat.le_trans Z113 (Nat.le_of_eq g_ad119.symm))
        have Z119 : n0 ≤ h119.size := (Nat.le_trans Z113 E119.1)
        have O119 : Old Z n0 h119 := O113.ext E119
        have C125 := C118.trans (CHr.ext E119 C118.1)
        have J125 := Nat.le_trans J118 E119.1
        have sf125_ad113 := Safe.ext E119 C118.1 sf118_ad113
        have sf125_ad119 : Safe Z own_EL _ h119 ad119 := Safe.ext E119 C118.1 (Safe.new (Nat.le_of_eq g_ad119.symm))
        have g126 : Fld Z h119 ad119 "java/lang/String" "value" "[B" .null := D119 (Or.inr (hW 4 _ rfl)) (ty := .array .byte) (by decide)
        have g127 : Fld Z h119 ad119 "java/lang/String" "coder" "B" (.int (0 : Int32)) := D119 (Or.inr (hW 5 _ rfl)) (ty := .byte) (by decide)
        refine own_sW T119 (mkF m 240 #[iv p0, iv p1, own_j p2, s_, rv ta, iv mo, iv 0, rv ad113, u_, u_, u_] [.ref ad119]) st119 ?_
        refine own_sW T119 (mkF m 241 #[iv p0, iv p1, own_j p2, s_, rv ta, iv mo, iv 0, rv ad113, u_, u_, u_] [.ref ad119, .ref ad119]) (fun t k => XS.dup X119.here hx rfl (hb hby at_240) rfl rfl k) ?_
        refine own_sW T119 (mkF m 243 #[iv p0, iv p1, own_j p2, s_, rv ta, iv mo, iv 0, rv ad113, u_, u_, u_] [.ref ad113, .ref ad119, .ref ad119]) (fun t k => XS.aload X119.here hx rfl (hb hby at_241) rfl rfl k) ?_
        obtain ⟨_, _, ⟨T134, L134, k134, n134⟩, -, X134, Sn134, -, ⟨Lc134, hQ134, lq134, yq134, zq134, R134⟩, st134⟩ := X119.specialBackS hx (y := (⟨"java/lang/String", "<init>", "([C)V"⟩ : MethodName)) rfl hown (mvT hZ (hW 50 _ rfl)) (mvT hZ (hW 51 _ rfl)) (mvT hZ (hW 52 _ rfl)) (by decide) (own_backW (W := 1) (rm_s1w l Z a0 hw [] ad119 ad113 k113 .null (.int (0 : Int32)) h119 n0 Z119 A119 g126 g127 g124 o119 (Ne.symm ne119_3)) hZ (hW 52 _ rfl) (hW 1 _ rfl) (by decide) (by decide) hEL C125.1 A119.lt sf125_ad119) (g := (mkF m 243 #[iv p0, iv p1, own_j p2, s_, rv ta, iv mo, iv 0, rv ad113, u_, u_, u_] [.ref ad113, .ref ad119, .ref ad119])) rfl (by rw [hml]; rfl) (Steps.refl _) (a := ad119) (argsL := [(.ref ad113)]) (rest := [(.ref ad119)]) (lenOf pd_19 rfl) rfl (by show 2 * 0 + _ ≤ _; exact Nat.le_of_eq rfl) (hb hby at_243) (fun _ _ => ⟨rfl, e119, (by decide : 4 + 4 ≤ _), (by decide : 36 + 8 ≤ _)⟩)
        dsimp only [Pt.U, Pt.locs, Pt.cells, Pt.slots] at X134 lq134 yq134 zq134 st134 hQ134 Sn134 R134
        subst lq134 yq134 zq134
        obtain ⟨X134, S134⟩ := X134.againW SH13 Sn134 (Nat.le_trans J125 R134.2.1)
        have hown : (s.setVm T134.vm).vm.findClass "com/example/umpire/umpire/xsts/ValidityOfPinLaw" = some m.cls := by rw [show (s.setVm T134.vm).vm = T134.vm from rfl, Sn134.1.alike.findClass]; exact hown
        have hZ : Z.Warmed39 (s.setVm T134.vm).vm := State.Warmed39.trans (t := (s.setVm vmH13)) hZ Sn134.1
        have J134 : T134.heap.size ≤ T134.heap.size := Nat.le_refl _
        have C134 := C125.trans R134
        have sf134_ad113 := R134.safe g124.lt sf125_ad113
        have sf134_ad119 := R134.safe A119.lt sf125_ad119
        obtain ⟨b_128, kb_128, rfl, Nq134, K129, g130, g131, g132, g133⟩ := hQ134
        have N134 := Fr.app NJ82 Nq134
        have g135 := g120.keep K129
        have g136 := g121.keep K129 (ninS ne119_1 nin0)
        have g137 := g122.keep K129 (ninS ne119_1 nin0)
        have g138 := g123.keep K129 (ninS ne119_2 nin0)
        have g139 := g124.keep K129 (ninS ne119_3 nin0)
        have Z129 : n0 ≤ T134.heap.size := (Nat.le_trans Z119 K129.1)
        have O129 : Old Z n0 T134.heap := O119.keep K129 (allS (P := fun x => n0 ≤ x) o119 all0)
        refine own_trW (T' := T134) (g' := (mkF m 246 #[iv p0, iv p1, own_j p2, s_, rv ta, iv mo, iv 0, rv ad113, u_, u_, u_] [.ref ad119])) st134 ?_
        exact j246 ad119 b_128 kb_128 (0 : Int32) [] (0 : Int32) ad113 _ _ T134 T134.heap _ (X134.mono (by decide) (by decide)) hZ hown rfl N134 Z129 S134 J134 C134 O129 g130 g132 g131 g133 sf134_ad119 o119 (Or.inl ⟨rfl, rfl⟩)
      · refine own_sW TJ82 (mkF m 84 #[iv p0, iv p1, own_j p2, s_, rv ta, iv mo, iv 1, u_, u_, u_, u_] [.int 1]) (fun t k => XS.iload XJ82.here hx rfl (hb hby at_82) rfl k) ?_
        obtain ⟨T140, h140, k140, X140, e140, E140, A140, st140⟩ := newP XJ82 hx hZ (hW 21 _ rfl) eJ82 (g := (mkF m 84 #[iv p0, iv p1, own_j p2, s_, rv ta, iv mo, iv 1, u_, u_, u_, u_] [.int 1])) rfl (hb hby at_84) rfl (by decide) (cap := 1) (by decide) (by decide) (by decide : 2 + 1 ≤ _) (by decide : 32 + 1 ≤ _)
        obtain ⟨ad140, g_ad140⟩ : ∃ z, z = hH13.size := ⟨_, rfl⟩
        rw [← g_ad140] at A140 st140
        have g141 := f0H13.ext E140
        have g142 := f1H13.ext E140
        have g143 := f2H13.ext E140
        have g144 := f3H13.ext E140
        have ne140_1 : ta ≠ ad140 := Nat.ne_of_lt (by rw [g_ad140]; exact f0H13.lt)
        have ne140_2 : tb ≠ ad140 := Nat.ne_of_lt (by rw [g_ad140]; exact f3H13.lt)
        have o140 : n0 ≤ ad140 := (Nat.le_trans ZH13 (Nat.le_of_eq g_ad140.symm))
        have Z140 : n0 ≤ h140.size := (Nat.le_trans ZH13 E140.1)
        have O140 : Old Z n0 h140 := OH13.ext E140
        have C145 := CH13.trans (CHr.ext E140 CH13.1)
        have J145 := Nat.le_trans JH13 E140.1
        have sf145_ad140 : Safe Z own_EL _ h140 ad140 := Safe.ext E140 CH13.1 (Safe.new (Nat.le_of_eq g_ad140.symm))
        have V140 : Arv Z h140 ad140 k140 .char (1 : Int32) [(.int (0 : Int32))] (.int (0 : Int32)) := (Arv.new A140 (by decide)).pad (pad_rep [] (.int (0 : Int32)) 1)
        refine own_sW T140 (mkF m 86 #[iv p0, iv p1, own_j p2, s_, rv ta, iv mo, iv 1, u_, u_, u_, u_] [.ref ad140]) st140 ?_
        refine own_sW T140 (mkF m 88 #[iv p0, iv p1, own_j p2, s_, rv ta, iv mo, iv 1, rv ad140, u_, u_, u_] []) (fun t k => XS.astore X140.here hx rfl (hb hby at_86) rfl rfl (l' := #[iv p0, iv p1, own_j p2, s_, rv ta, iv mo, iv 1, rv ad140, u_, u_, u_]) rfl k) ?_
        refine own_sW T140 (mkF m 90 #[iv p0, iv p1, own_j p2, s_, rv ta, iv mo, iv 1, rv ad140, u_, u_, u_] [.int 1]) (fun t k => XS.iload X140.here hx rfl (hb hby at_88) rfl k) ?_
        refine own_sW T140 (mkF m 93 #[iv p0, iv p1, own_j p2, s_, rv ta, iv mo, iv 1, rv ad140, u_, u_, u_] []) (fun t k => XS.ifNo X140.here hx rfl (hb hby at_90) rfl ((if0 _ _).trans (tlt (by decide : ((0 : Int32) < (1 : Int32)))).2.2.2) k) ?_
        refine own_sW T140 (mkF m 95 #[iv p0, iv p1, own_j p2, s_, rv ta, iv mo, iv 1, rv ad140, u_, u_, u_] [.ref ad140]) (fun t k => XS.aload X140.here hx rfl (hb hby at_93) rfl rfl k) ?_
        refine own_sW T140 (mkF m 96 #[iv p0, iv p1, own_j p2, s_, rv ta, iv mo, iv 1, rv ad140, u_, u_, u_] [.int 0, .ref ad140]) (fun t k => XS.iconst X140.here hx rfl (hb hby at_95) k) ?_
        refine own_sW T140 (mkF m 97 #[iv p0, iv p1, own_j p2, s_, rv ta, iv mo, iv 1, rv ad140, u_, u_, u_] [.int 0, .int 0, .ref ad140]) (fun t k => XS.iconst X140.here hx rfl (hb hby at_96) k) ?_
        refine own_sW T140 (mkF m 99 #[iv p0, iv p1, own_j p2, s_, rv ta, iv mo, iv 1, rv ad140, u_, u_, u_] [.ref ta, .int 0, .int 0, .ref ad140]) (fun t k => XS.aload X140.here hx rfl (hb hby at_97) rfl rfl k) ?_
        refine own_sW T140 (mkF m 100 #[iv p0, iv p1, own_j p2, s_, rv ta, iv mo, iv 1, rv ad140, u_, u_, u_] [.int p0, .ref ta, .int 0, .int 0, .ref ad140]) (fun t k => XS.iloadN X140.here hx rfl (hb hby at_99) rfl k) ?_
        refine own_sW T140 (mkF m 101 #[iv p0, iv p1, own_j p2, s_, rv ta, iv mo, iv 1, rv ad140, u_, u_, u_] [.long p2, .int p0, .ref ta, .int 0, .int 0, .ref ad140]) (fun t k => XS.lloadN X140.here hx rfl (hb hby at_100) rfl k) ?_
        obtain ⟨_, _, ⟨T148, L148, k148, n148⟩, -, X148, ⟨Lc148, hQ148, lq148, yq148, zq148⟩, st148⟩ := Jvm.LawKit.callS X140 hx (y := (⟨"com/example/umpire/umpire/xsts/ValidityOfPinLaw", "ch", "(ILjava/lang/String;IJ)C"⟩ : MethodName)) hown (mvT hZ (hW 22 _ rfl)) (mvT hZ (hW 23 _ rfl)) (mvT hZ (hW 24 _ rfl)) (mvT hZ (hW 25 _ rfl)) (by decide) (backOf (W := 2) (rm_ch l Z a0 hw [] ta tb tk tn tl (0 : Int32) p0 p2 fm ic h140 n0 Z140 g141 g142 g143 g144 O140 hfm S_f htf (by decide) S_c hic) hZ (hW 25 _ rfl) (hW 24 _ rfl) (by decide) (by decide)) (g := (mkF m 101 #[iv p0, iv p1, own_j p2, s_, rv ta, iv mo, iv 1, rv ad140, u_, u_, u_] [.long p2, .int p0, .ref ta, .int 0, .int 0, .ref ad140])) rfl (by rw [hml]; rfl) (argsL := [(.int (0 : Int32)), (.ref ta), (.int p0), (.long p2)]) (rest := [(.int (0 : Int32)), (.ref ad140)]) (lenOf pd_20 rfl) rfl (by show 2 * 0 + _ ≤ _; exact Nat.le_of_eq rfl) (hb hby at_101) (fun _ _ => ⟨rfl, e140, (by decide : 3 + 0 ≤ _), (by decide : 33 + 0 ≤ _)⟩)
        dsimp only [Pt.U, Pt.locs, Pt.cells, Pt.slots] at X148 lq148 yq148 zq148 st148 hQ148
        subst lq148 yq148 zq148
        obtain ⟨rfl, Nq148, eq147⟩ := hQ148
        have N148 := Fr.app NJ82 Nq148
        refine own_sW T148 (mkF m 104 #[iv p0, iv p1, own_j p2, s_, rv ta, iv mo, iv 1, rv ad140, u_, u_, u_] [.int (nar .char (own_chv tl tn p0 (0 : Int32) p2)), .int 0, .ref ad140]) st148 ?_
        have hb0 := own_c255 tl tn p0 (0 : Int32) p2
        revert hb0
        generalize (nar .char (own_chv tl tn p0 (0 : Int32) p2)) = c0
        intro hb0
        obtain ⟨cl149, Ar149, qa149, S149, M149, H149, U149⟩ := id V140
        obtain ⟨T149, h149, X149, e149, W149, st149⟩ := stC X148 hx hZ eq147 Ar149 (j := (0 : Int32)) (inb_of S149 ⟨by decide, by decide⟩) (g := (mkF m 104 #[iv p0, iv p1, own_j p2, s_, rv ta, iv mo, iv 1, rv ad140, u_, u_, u_] [.int c0, .int 0, .ref ad140])) rfl rfl (hb hby at_104)
        have g150 := g141.wr W149
        have g151 := g142.other W149 (Or.inl ne140_1)
        have g152 := g143.other W149 (Or.inl ne140_1)
        have g153 := g144.other W149 ne140_2
        have g154 : Arv Z h149 ad140 k140 .char (1 : Int32) [(.int (nar .char c0))] (.int (0 : Int32)) := Arv.set Ar149 qa149 S149 M149 H149 U149 (fits_nar_char _) W149 0 rfl (Nat.le_of_ble_eq_true rfl)
        have C155 := C145.trans (CHr.wr W149 sf145_ad140 C145.1)
        have J155 := Nat.le_trans J145 (Nat.le_of_eq W149.size.symm)
        have sf155_ad140 := Safe.wr W149 sf145_ad140 C145.1 sf145_ad140
        have N149 := Fr.snoc X149 N148 o140
        have Z149 : n0 ≤ h149.size := (Nat.le_trans Z140 (Nat.le_of_eq W149.size.symm))
        have O149 : Old Z n0 h149 := O140.wr W149 o140
        refine own_sW T149 (mkF m 105 #[iv p0, iv p1, own_j p2, s_, rv ta, iv mo, iv 1, rv ad140, u_, u_, u_] []) st149 ?_
        refine own_sW T149 (mkF m 107 #[iv p0, iv p1, own_j p2, s_, rv ta, iv mo, iv 1, rv ad140, u_, u_, u_] [.int 1]) (fun t k => XS.iload X149.here hx rfl (hb hby at_105) rfl k) ?_
        refine own_sW T149 (mkF m 108 #[iv p0, iv p1, own_j p2, s_, rv ta, iv mo, iv 1, rv ad140, u_, u_, u_] [.int 1, .int 1]) (fun t k => XS.iconst X149.here hx rfl (hb hby at_107) k) ?_
        refine own_sW T149 (mkF m 123 #[iv p0, iv p1, own_j p2, s_, rv ta, iv mo, iv 1, rv ad140, u_, u_, u_] []) (fun t k => XS.icmpYes X149.here hx rfl (pc0 := 108) (pc' := 123) rfl (hb hby at_108) rfl (flt (by decide : ¬ ((1 : Int32) < (1 : Int32)))).2.2.2 (by decide) (by decide) k) ?_
        refine own_sW T149 (mkF m 125 #[iv p0, iv p1, own_j p2, s_, rv ta, iv mo, iv 1, rv ad140, u_, u_, u_] [.int 1]) (fun t k => XS.iload X149.here hx rfl (hb hby at_123) rfl k) ?_
        refine own_sW T149 (mkF m 126 #[iv p0, iv p1, own_j p2, s_, rv ta, iv mo, iv 1, rv ad140, u_, u_, u_] [.int 2, .int 1]) (fun t k => XS.iconst X149.here hx rfl (hb hby at_125) k) ?_
        refine own_sW T149 (mkF m 141 #[iv p0, iv p1, own_j p2, s_, rv ta, iv mo, iv 1, rv ad140, u_, u_, u_] []) (fun t k => XS.icmpYes X149.here hx rfl (pc0 := 126) (pc' := 141) rfl (hb hby at_126) rfl (flt (by decide : ¬ ((2 : Int32) < (1 : Int32)))).2.2.2 (by decide) (by decide) k) ?_
        refine own_sW T149 (mkF m 143 #[iv p0, iv p1, own_j p2, s_, rv ta, iv mo, iv 1, rv ad140, u_, u_, u_] [.int 1]) (fun t k => XS.iload X149.here hx rfl (hb hby at_141) rfl k) ?_
        refine own_sW T149 (mkF m 144 #[iv p0, iv p1, own_j p2, s_, rv ta, iv mo, iv 1, rv ad140, u_, u_, u_] [.int 3, .int 1]) (fun t k => XS.iconst X149.here hx rfl (hb hby at_143) k) ?_
        refine own_sW T149 (mkF m 159 #[iv p0, iv p1, own_j p2, s_, rv ta, iv mo, iv 1, rv ad140, u_, u_, u_] []) (fun t k => XS.icmpYes X149.here hx rfl (pc0 := 144) (pc' := 159) rfl (hb hby at_144) rfl (flt (by decide : ¬ ((3 : Int32) < (1 : Int32)))).2.2.2 (by decide) (by decide) k) ?_
        refine own_sW T149 (mkF m 161 #[iv p0, iv p1, own_j p2, s_, rv ta, iv mo, iv 1, rv ad140, u_, u_, u_] [.int 1]) (fun t k => XS.iload X149.here hx rfl (hb hby at_159) rfl k) ?_
        refine own_sW T149 (mkF m 162 #[iv p0, iv p1, own_j p2, s_, rv ta, iv mo, iv 1, rv ad140, u_, u_, u_] [.int 4, .int 1]) (fun t k => XS.iconst X149.here hx rfl (hb hby at_161) k) ?_
        refine own_sW T149 (mkF m 177 #[iv p0, iv p1, own_j p2, s_, rv ta, iv mo, iv 1, rv ad140, u_, u_, u_] []) (fun t k => XS.icmpYes X149.here hx rfl (pc0 := 162) (pc' := 177) rfl (hb hby at_162) rfl (flt (by decide : ¬ ((4 : Int32) < (1 : Int32)))).2.2.2 (by decide) (by decide) k) ?_
        refine own_sW T149 (mkF m 179 #[iv p0, iv p1, own_j p2, s_, rv ta, iv mo, iv 1, rv ad140, u_, u_, u_] [.int 1]) (fun t k => XS.iload X149.here hx rfl (hb hby at_177) rfl k) ?_
        refine own_sW T149 (mkF m 180 #[iv p0, iv p1, own_j p2, s_, rv ta, iv mo, iv 1, rv ad140, u_, u_, u_] [.int 5, .int 1]) (fun t k => XS.iconst X149.here hx rfl (hb hby at_179) k) ?_
        refine own_sW T149 (mkF m 195 #[iv p0, iv p1, own_j p2, s_, rv ta, iv mo, iv 1, rv ad140, u_, u_, u_] []) (fun t k => XS.icmpYes X149.here hx rfl (pc0 := 180) (pc' := 195) rfl (hb hby at_180) rfl (flt (by decide : ¬ ((5 : Int32) < (1 : Int32)))).2.2.2 (by decide) (by decide) k) ?_
        refine own_sW T149 (mkF m 197 #[iv p0, iv p1, own_j p2, s_, rv ta, iv mo, iv 1, rv ad140, u_, u_, u_] [.int 1]) (fun t k => XS.iload X149.here hx rfl (hb hby at_195) rfl k) ?_
        refine own_sW T149 (mkF m 199 #[iv p0, iv p1, own_j p2, s_, rv ta, iv mo, iv 1, rv ad140, u_, u_, u_] [.int 6, .int 1]) (fun t k => XS.bipush X149.here hx rfl (hb hby at_197) k) ?_
        refine own_sW T149 (mkF m 216 #[iv p0, iv p1, own_j p2, s_, rv ta, iv mo, iv 1, rv ad140, u_, u_, u_] []) (fun t k => XS.icmpYes X149.here hx rfl (pc0 := 199) (pc' := 216) rfl (hb hby at_199) rfl (flt (by decide : ¬ ((6 : Int32) < (1 : Int32)))).2.2.2 (by decide) (by decide) k) ?_
        refine own_sW T149 (mkF m 218 #[iv p0, iv p1, own_j p2, s_, rv ta, iv mo, iv 1, rv ad140, u_, u_, u_] [.int 1]) (fun t k => XS.iload X149.here hx rfl (hb hby at_216) rfl k) ?_
        refine own_sW T149 (mkF m 220 #[iv p0, iv p1, own_j p2, s_, rv ta, iv mo, iv 1, rv ad140, u_, u_, u_] [.int 7, .int 1]) (fun t k => XS.bipush X149.here hx rfl (hb hby at_218) k) ?_
        refine own_sW T149 (mkF m 237 #[iv p0, iv p1, own_j p2, s_, rv ta, iv mo, iv 1, rv ad140, u_, u_, u_] []) (fun t k => XS.icmpYes X149.here hx rfl (pc0 := 220) (pc' := 237) rfl (hb hby at_220) rfl (flt (by decide : ¬ ((7 : Int32) < (1 : Int32)))).2.2.2 (by decide) (by decide) k) ?_
        exact j237 ad140 k140 (1 : Int32) [(.int (nar .char c0))] (1 : Int32) _ _ T149 h149 _ (X149.mono (by decide) (by decide)) hZ hown e149 N149 Z149 SH13 J155 C155 O149 g154 sf155_ad140 o140 (Or.inl ⟨_, rfl, rfl, hb0⟩)
      · refine own_sW TJ82 (mkF m 84 #[iv p0, iv p1, own_j p2, s_, rv ta, iv mo, iv 2, u_, u_, u_, u_] [.int 2]) (fun t k => XS.iload XJ82.here hx rfl (hb hby at_82) rfl k) ?_
        obtain ⟨T156, h156, k156, X156, e156, E156, A156, st156⟩ := newP XJ82 hx hZ (hW 21 _ rfl) eJ82 (g := (mkF m 84 #[iv p0, iv p1, own_j p2, s_, rv ta, iv mo, iv 2, u_, u_, u_, u_] [.int 2])) rfl (hb hby at_84) rfl (by decide) (cap := 2) (by decide) (by decide) (by decide : 2 + 1 ≤ _) (by decide : 32 + 2 ≤ _)
        obtain ⟨ad156, g_ad156⟩ : ∃ z, z = hH13.size := ⟨_, rfl⟩
        rw [← g_ad156] at A156 st156
        have g157 := f0H13.ext E156
        have g158 := f1H13.ext E156
        have g159 := f2H13.ext E156
        have g160 := f3H13.ext E156
        have ne156_1 : ta ≠ ad156 := Nat.ne_of_lt (by rw [g_ad156]; exact f0H13.lt)
        have ne156_2 : tb ≠ ad156 := Nat.ne_of_lt (by rw [g_ad156]; exact f3H13.lt)
        have o156 : n0 ≤ ad156 := (Nat.le_trans ZH13 (Nat.le_of_eq g_ad156.symm))
        have Z156 : n0 ≤ h156.size := (Nat.le_trans ZH13 E156.1)
        have O156 : Old Z n0 h156 := OH13.ext E156
        have C161 := CH13.trans (CHr.ext E156 CH13.1)
        have J161 := Nat.le_trans JH13 E156.1
        have sf161_ad156 : Safe Z own_EL _ h156 ad156 := Safe.ext E156 CH13.1 (Safe.new (Nat.le_of_eq g_ad156.symm))
        have V156 : Arv Z h156 ad156 k156 .char (2 : Int32) [(.int (0 : Int32)), (.int (0 : Int32))] (.int (0 : Int32)) := (Arv.new A156 (by decide)).pad (pad_rep [] (.int (0 : Int32)) 2)
        refine own_sW T156 (mkF m 86 #[iv p0, iv p1, own_j p2, s_, rv ta, iv mo, iv 2, u_, u_, u_, u_] [.ref ad156]) st156 ?_
        refine own_sW T156 (mkF m 88 #[iv p0, iv p1, own_j p2, s_, rv ta, iv mo, iv 2, rv ad156, u_, u_, u_] []) (fun t k => XS.astore X156.here hx rfl (hb hby at_86) rfl rfl (l' := #[iv p0, iv p1, own_j p2, s_, rv ta, iv mo, iv 2, rv ad156, u_, u_, u_]) rfl k) ?_
        refine own_sW T156 (mkF m 90 #[iv p0, iv p1, own_j p2, s_, rv ta, iv mo, iv 2, rv ad156, u_, u_, u_] [.int 2]) (fun t k => XS.iload X156.here hx rfl (hb hby at_88) rfl k) ?_
        refine own_sW T156 (mkF m 93 #[iv p0, iv p1, own_j p2, s_, rv ta, iv mo, iv 2, rv ad156, u_, u_, u_] []) (fun t k => XS.ifNo X156.here hx rfl (hb hby at_90) rfl ((if0 _ _).trans (tlt (by decide : ((0 : Int32) < (2 : Int32)))).2.2.2) k) ?_
        refine own_sW T156 (mkF m 95 #[iv p0, iv p1, own_j p2, s_, rv ta, iv mo, iv 2, rv ad156, u_, u_, u_] [.ref ad156]) (fun t k => XS.aload X156.here hx rfl (hb hby at_93) rfl rfl k) ?_
        refine own_sW T156 (mkF m 96 #[iv p0, iv p1, own_j p2, s_, rv ta, iv mo, iv 2, rv ad156, u_, u_, u_] [.int 0, .ref ad156]) (fun t k => XS.iconst X156.here hx rfl (hb hby at_95) k) ?_
        refine own_sW T156 (mkF m 97 #[iv p0, iv p1, own_j p2, s_, rv ta, iv mo, iv 2, rv ad156, u_, u_, u_] [.int 0, .int 0, .ref ad156]) (fun t k => XS.iconst X156.here hx rfl (hb hby at_96) k) ?_
        refine own_sW T156 (mkF m 99 #[iv p0, iv p1, own_j p2, s_, rv ta, iv mo, iv 2, rv ad156, u_, u_, u_] [.ref ta, .int 0, .int 0, .ref ad156]) (fun t k => XS.aload X156.here hx rfl (hb hby at_97) rfl rfl k) ?_
        refine own_sW T156 (mkF m 100 #[iv p0, iv p1, own_j p2, s_, rv ta, iv mo, iv 2, rv ad156, u_, u_, u_] [.int p0, .ref ta, .int 0, .int 0, .ref ad156]) (fun t k => XS.iloadN X156.here hx rfl (hb hby at_99) rfl k) ?_
        refine own_sW T156 (mkF m 101 #[iv p0, iv p1, own_j p2, s_, rv ta, iv mo, iv 2, rv ad156, u_, u_, u_] [.long p2, .int p0, .ref ta, .int 0, .int 0, .ref ad156]) (fun t k => XS.lloadN X156.here hx rfl (hb hby at_100) rfl k) ?_
        obtain ⟨_, _, ⟨T164, L164, k164, n164⟩, -, X164, ⟨Lc164, hQ164, lq164, yq164, zq164⟩, st164⟩ := Jvm.LawKit.callS X156 hx (y := (⟨"com/example/umpire/umpire/xsts/ValidityOfPinLaw", "ch", "(ILjava/lang/String;IJ)C"⟩ : MethodName)) hown (mvT hZ (hW 22 _ rfl)) (mvT hZ (hW 23 _ rfl)) (mvT hZ (hW 24 _ rfl)) (mvT hZ (hW 25 _ rfl)) (by decide) (backOf (W := 2) (rm_ch l Z a0 hw [] ta tb tk tn tl (0 : Int32) p0 p2 fm ic h156 n0 Z156 g157 g158 g159 g160 O156 hfm S_f htf (by decide) S_c hic) hZ (hW 25 _ rfl) (hW 24 _ rfl) (by decide) (by decide)) (g := (mkF m 101 #[iv p0, iv p1, own_j p2, s_, rv ta, iv mo, iv 2, rv ad156, u_, u_, u_] [.long p2, .int p0, .ref ta, .int 0, .int 0, .ref ad156])) rfl (by rw [hml]; rfl) (argsL := [(.int (0 : Int32)), (.ref ta), (.int p0), (.long p2)]) (rest := [(.int (0 : Int32)), (.ref ad156)]) (lenOf pd_20 rfl) rfl (by show 2 * 0 + _ ≤ _; exact Nat.le_of_eq rfl) (hb hby at_101) (fun _ _ => ⟨rfl, e156, (by decide : 3 + 0 ≤ _), (by decide : 34 + 0 ≤ _)⟩)
        dsimp only [Pt.U, Pt.locs, Pt.cells, Pt.slots] at X164 lq164 yq164 zq164 st164 hQ164
        subst lq164 yq164 zq164
        obtain ⟨rfl, Nq164, eq163⟩ := hQ164
        have N164 := Fr.app NJ82 Nq164
        refine own_sW T164 (mkF m 104 #[iv p0, iv p1, own_j p2, s_, rv ta, iv mo, iv 2, rv ad156, u_, u_, u_] [.int (nar .char (own_chv tl tn p0 (0 : Int32) p2)), .int 0, .ref ad156]) st164 ?_
        have hb0 := own_c255 tl tn p0 (0 : Int32) p2
        revert hb0
        generalize (nar .char (own_chv tl tn p0 (0 : Int32) p2)) = c0
        intro hb0
        obtain ⟨cl165, Ar165, qa165, S165, M165, H165, U165⟩ := id V156
        obtain ⟨T165, h165, X165, e165, W165, st165⟩ := stC X164 hx hZ eq163 Ar165 (j := (0 : Int32)) (inb_of S165 ⟨by decide, by decide⟩) (g := (mkF m 104 #[iv p0, iv p1, own_j p2, s_, rv ta, iv mo, iv 2, rv ad156, u_, u_, u_] [.int c0, .int 0, .ref ad156])) rfl rfl (hb hby at_104)
        have g166 := g157.wr W165
        have g167 := g158.other W165 (Or.inl ne156_1)
        have g168 := g159.other W165 (Or.inl ne156_1)
        have g169 := g160.other W165 ne156_2
        have g170 : Arv Z h165 ad156 k156 .char (2 : Int32) [(.int (nar .char c0)), (.int (0 : Int32))] (.int (0 : Int32)) := Arv.set Ar165 qa165 S165 M165 H165 U165 (fits_nar_char _) W165 0 rfl (Nat.le_of_ble_eq_true rfl)
        have C171 := C161.trans (CHr.wr W165 sf161_ad156 C161.1)
        have J171 := Nat.le_trans J161 (Nat.le_of_eq W165.size.symm)
        have sf171_ad156 := Safe.wr W165 sf161_ad156 C161.1 sf161_ad156
        have N165 := Fr.snoc X165 N164 o156
        have Z165 : n0 ≤ h165.size := (Nat.le_trans Z156 (Nat.le_of_eq W165.size.symm))
        have O165 : Old Z n0 h165 := O156.wr W165 o156
        refine own_sW T165 (mkF m 105 #[iv p0, iv p1, own_j p2, s_, rv ta, iv mo, iv 2, rv ad156, u_, u_, u_] []) st165 ?_
        refine own_sW T165 (mkF m 107 #[iv p0, iv p1, own_j p2, s_, rv ta, iv mo, iv 2, rv ad156, u_, u_, u_] [.int 2]) (fun t k => XS.iload X165.here hx rfl (hb hby at_105) rfl k) ?_
        refine own_sW T165 (mkF m 108 #[iv p0, iv p1, own_j p2, s_, rv ta, iv mo, iv 2, rv ad156, u_, u_, u_] [.int 1, .int 2]) (fun t k => XS.iconst X165.here hx rfl (hb hby at_107) k) ?_
        refine own_sW T165 (mkF m 111 #[iv p0, iv p1, own_j p2, s_, rv ta, iv mo, iv 2, rv ad156, u_, u_, u_] []) (fun t k => XS.icmpNo X165.here hx rfl (hb hby at_108) rfl (tlt (by decide : ((1 : Int32) < (2 : Int32)))).2.2.2 k) ?_
        refine own_sW T165 (mkF m 113 #[iv p0, iv p1, own_j p2, s_, rv ta, iv mo, iv 2, rv ad156, u_, u_, u_] [.ref ad156]) (fun t k => XS.aload X165.here hx rfl (hb hby at_111) rfl rfl k) ?_
        refine own_sW T165 (mkF m 114 #[iv p0, iv p1, own_j p2, s_, rv ta, iv mo, iv 2, rv ad156, u_, u_, u_] [.int 1, .ref ad156]) (fun t k => XS.iconst X165.here hx rfl (hb hby at_113) k) ?_
        refine own_sW T165 (mkF m 115 #[iv p0, iv p1, own_j p2, s_, rv ta, iv mo, iv 2, rv ad156, u_, u_, u_] [.int 1, .int 1, .ref ad156]) (fun t k => XS.iconst X165.here hx rfl (hb hby at_114) k) ?_
        refine own_sW T165 (mkF m 117 #[iv p0, iv p1, own_j p2, s_, rv ta, iv mo, iv 2, rv ad156, u_, u_, u_] [.ref ta, .int 1, .int 1, .ref ad156]) (fun t k => XS.aload X165.here hx rfl (hb hby at_115) rfl rfl k) ?_
        refine own_sW T165 (mkF m 118 #[iv p0, iv p1, own_j p2, s_, rv ta, iv mo, iv 2, rv ad156, u_, u_, u_] [.int p0, .ref ta, .int 1, .int 1, .ref ad156]) (fun t k => XS.iloadN X165.here hx rfl (hb hby at_117) rfl k) ?_
        refine own_sW T165 (mkF m 119 #[iv p0, iv p1, own_j p2, s_, rv ta, iv mo, iv 2, rv ad156, u_, u_, u_] [.long p2, .int p0, .ref ta, .int 1, .int 1, .ref ad156]) (fun t k => XS.lloadN X165.here hx rfl (hb hby at_118) rfl k) ?_
        obtain ⟨_, _, ⟨T174, L174, k174, n174⟩, -, X174, ⟨Lc174, hQ174, lq174, yq174, zq174⟩, st174⟩ := Jvm.LawKit.callS X165 hx (y := (⟨"com/example/umpire/umpire/xsts/ValidityOfPinLaw", "ch", "(ILjava/lang/String;IJ)C"⟩ : MethodName)) hown (mvT hZ (hW 22 _ rfl)) (mvT hZ (hW 23 _ rfl)) (mvT hZ (hW 24 _ rfl)) (mvT hZ (hW 25 _ rfl)) (by decide) (backOf (W := 2) (rm_ch l Z a0 hw [] ta tb tk tn tl (1 : Int32) p0 p2 fm ic h165 n0 Z165 g166 g167 g168 g169 O165 hfm S_f htf (by decide) S_c hic) hZ (hW 25 _ rfl) (hW 24 _ rfl) (by decide) (by decide)) (g := (mkF m 119 #[iv p0, iv p1, own_j p2, s_, rv ta, iv mo, iv 2, rv ad156, u_, u_, u_] [.long p2, .int p0, .ref ta, .int 1, .int 1, .ref ad156])) rfl (by rw [hml]; rfl) (argsL := [(.int (1 : Int32)), (.ref ta), (.int p0), (.long p2)]) (rest := [(.int (1 : Int32)), (.ref ad156)]) (lenOf pd_20 rfl) rfl (by show 2 * 0 + _ ≤ _; exact Nat.le_of_eq rfl) (hb hby at_119) (fun _ _ => ⟨rfl, e165, (by decide : 3 + 0 ≤ _), (by decide : 34 + 0 ≤ _)⟩)
        dsimp only [Pt.U, Pt.locs, Pt.cells, Pt.slots] at X174 lq174 yq174 zq174 st174 hQ174
        subst lq174 yq174 zq174
        obtain ⟨rfl, Nq174, eq173⟩ := hQ174
        have N174 := Fr.app N165 Nq174
        refine own_sW T174 (mkF m 122 #[iv p0, iv p1, own_j p2, s_, rv ta, iv mo, iv 2, rv ad156, u_, u_, u_] [.int (nar .char (own_chv tl tn p0 (1 : Int32) p2)), .int 1, .ref ad156]) st174 ?_
        have hb1 := own_c255 tl tn p0 (1 : Int32) p2
        revert hb1
        generalize (nar .char (own_chv tl tn p0 (1 : Int32) p2)) = c1
        intro hb1
        obtain ⟨cl175, Ar175, qa175, S175, M175, H175, U175⟩ := id g170
        obtain ⟨T175, h175, X175, e175, W175, st175⟩ := stC X174 hx hZ eq173 Ar175 (j := (1 : Int32)) (inb_of S175 ⟨by decide, by decide⟩) (g := (mkF m 122 #[iv p0, iv p1, own_j p2, s_, rv ta, iv mo, iv 2, rv ad156, u_, u_, u_] [.int c1, .int 1, .ref ad156])) rfl rfl (hb hby at_122)
        have g176 := g166.wr W175
        have g177 := g167.other W175 (Or.inl ne156_1)
        have g178 := g168.other W175 (Or.inl ne156_1)
        have g179 := g169.other W175 ne156_2
        have g180 : Arv Z h175 ad156 k156 .char (2 : Int32) [(.int (nar .char c0)), (.int (nar .char c1))] (.int (0 : Int32)) := Arv.set Ar175 qa175 S175 M175 H175 U175 (fits_nar_char _) W175 1 rfl (Nat.le_of_ble_eq_true rfl)
        have C181 := C171.trans (CHr.wr W175 sf171_ad156 C171.1)
        have J181 := Nat.le_trans J171 (Nat.le_of_eq W175.size.symm)
        have sf181_ad156 := Safe.wr W175 sf171_ad156 C171.1 sf171_ad156
        have N175 := Fr.snoc X175 N174 o156
        have Z175 : n0 ≤ h175.size := (Nat.le_trans Z165 (Nat.le_of_eq W175.size.symm))
        have O175 : Old Z n0 h175 := O165.wr W175 o156
        refine own_sW T175 (mkF m 123 #[iv p0, iv p1, own_j p2, s_, rv ta, iv mo, iv 2, rv ad156, u_, u_, u_] []) st175 ?_
        refine own_sW T175 (mkF m 125 #[iv p0, iv p1, own_j p2, s_, rv ta, iv mo, iv 2, rv ad156, u_, u_, u_] [.int 2]) (fun t k => XS.iload X175.here hx rfl (hb hby at_123) rfl k) ?_
        refine own_sW T175 (mkF m 126 #[iv p0, iv p1, own_j p2, s_, rv ta, iv mo, iv 2, rv ad156, u_, u_, u_] [.int 2, .int 2]) (fun t k => XS.iconst X175.here hx rfl (hb hby at_125) k) ?_
        refine own_sW T175 (mkF m 141 #[iv p0, iv p1, own_j p2, s_, rv ta, iv mo, iv 2, rv ad156, u_, u_, u_] []) (fun t k => XS.icmpYes X175.here hx rfl (pc0 := 126) (pc' := 141) rfl (hb hby at_126) rfl (flt (by decide : ¬ ((2 : Int32) < (2 : Int32)))).2.2.2 (by decide) (by decide) k) ?_
        refine own_sW T175 (mkF m 143 #[iv p0, iv p1, own_j p2, s_, rv ta, iv mo, iv 2, rv ad156, u_, u_, u_] [.int 2]) (fun t k => XS.iload X175.here hx rfl (hb hby at_141) rfl k) ?_
        refine own_sW T175 (mkF m 144 #[iv p0, iv p1, own_j p2, s_, rv ta, iv mo, iv 2, rv ad156, u_, u_, u_] [.int 3, .int 2]) (fun t k => XS.iconst X175.here hx rfl (hb hby at_143) k) ?_
        refine own_sW T175 (mkF m 159 #[iv p0, iv p1, own_j p2, s_, rv ta, iv mo, iv 2, rv ad156, u_, u_, u_] []) (fun t k => XS.icmpYes X175.here hx rfl (pc0 := 144) (pc' := 159) rfl (hb hby at_144) rfl (flt (by decide : ¬ ((3 : Int32) < (2 : Int32)))).2.2.2 (by decide) (by decide) k) ?_
        refine own_sW T175 (mkF m 161 #[iv p0, iv p1, own_j p2, s_, rv ta, iv mo, iv 2, rv ad156, u_, u_, u_] [.int 2]) (fun t k => XS.iload X175.here hx rfl (hb hby at_159) rfl k) ?_
        refine own_sW T175 (mkF m 162 #[iv p0, iv p1, own_j p2, s_, rv ta, iv mo, iv 2, rv ad156, u_, u_, u_] [.int 4, .int 2]) (fun t k => XS.iconst X175.here hx rfl (hb hby at_161) k) ?_
        refine own_sW T175 (mkF m 177 #[iv p0, iv p1, own_j p2, s_, rv ta, iv mo, iv 2, rv ad156, u_, u_, u_] []) (fun t k => XS.icmpYes X175.here hx rfl (pc0 := 162) (pc' := 177) rfl (hb hby at_162) rfl (flt (by decide : ¬ ((4 : Int32) < (2 : Int32)))).2.2.2 (by decide) (by decide) k) ?_
        refine own_sW T175 (mkF m 179 #[iv p0, iv p1, own_j p2, s_, rv ta, iv mo, iv 2, rv ad156, u_, u_, u_] [.int 2]) (fun t k => XS.iload X175.here hx rfl (hb hby at_177) rfl k) ?_
        refine own_sW T175 (mkF m 180 #[iv p0, iv p1, own_j p2, s_, rv ta, iv mo, iv 2, rv ad156, u_, u_, u_] [.int 5, .int 2]) (fun t k => XS.iconst X175.here hx rfl (hb hby at_179) k) ?_
        refine own_sW T175 (mkF m 195 #[iv p0, iv p1, own_j p2, s_, rv ta, iv mo, iv 2, rv ad156, u_, u_, u_] []) (fun t k => XS.icmpYes X175.here hx rfl (pc0 := 180) (pc' := 195) rfl (hb hby at_180) rfl (flt (by decide : ¬ ((5 : Int32) < (2 : Int32)))).2.2.2 (by decide) (by decide) k) ?_
        refine own_sW T175 (mkF m 197 #[iv p0, iv p1, own_j p2, s_, rv ta, iv mo, iv 2, rv ad156, u_, u_, u_] [.int 2]) (fun t k => XS.iload X175.here hx rfl (hb hby at_195) rfl k) ?_
        refine own_sW T175 (mkF m 199 #[iv p0, iv p1, own_j p2, s_, rv ta, iv mo, iv 2, rv ad156, u_, u_, u_] [.int 6, .int 2]) (fun t k => XS.bipush X175.here hx rfl (hb hby at_197) k) ?_
        refine own_sW T175 (mkF m 216 #[iv p0, iv p1, own_j p2, s_, rv ta, iv mo, iv 2, rv ad156, u_, u_, u_] []) (fun t k => XS.icmpYes X175.here hx rfl (pc0 := 199) (pc' := 216) rfl (hb hby at_199) rfl (flt (by decide : ¬ ((6 : Int32) < (2 : Int32)))).2.2.2 (by decide) (by decide) k) ?_
        refine own_sW T175 (mkF m 218 #[iv p0, iv p1, own_j p2, s_, rv ta, iv mo, iv 2, rv ad156, u_, u_, u_] [.int 2]) (fun t k => XS.iload X175.here hx rfl (hb hby at_216) rfl k) ?_
        refine own_sW T175 (mkF m 220 #[iv p0, iv p1, own_j p2, s_, rv ta, iv mo, iv 2, rv ad156, u_, u_, u_] [.int 7, .int 2]) (fun t k => XS.bipush X175.here hx rfl (hb hby at_218) k) ?_
        refine own_sW T175 (mkF m 237 #[iv p0, iv p1, own_j p2, s_, rv ta, iv mo, iv 2, rv ad156, u_, u_, u_] []) (fun t k => XS.icmpYes X175.here hx rfl (pc0 := 220) (pc' := 237) rfl (hb hby at_220) rfl (flt (by decide : ¬ ((7 : Int32) < (2 : Int32)))).2.2.2 (by decide) (by decide) k) ?_
        exact j237 ad156 k156 (2 : Int32) [(.int (nar .char c0)), (.int (nar .char c1))] (2 : Int32) _ _ T175 h175 _ (X175.mono (by decide) (by decide)) hZ hown e175 N175 Z175 SH13 J181 C181 O175 g180 sf181_ad156 o156 (Or.inr (Or.inl ⟨_, _, rfl, rfl, hb0, hb1⟩))
      · refine own_sW TJ82 (mkF m 84 #[iv p0, iv p1, own_j p2, s_, rv ta, iv mo, iv 3, u_, u_, u_, u_] [.int 3]) (fun t k => XS.iload XJ82.here hx rfl (hb hby at_82) rfl k) ?_
        obtain ⟨T182, h182, k182, X182, e182, E182, A182, st182⟩ := newP XJ82 hx hZ (hW 21 _ rfl) eJ82 (g := (mkF m 84 #[iv p0, iv p1, own_j p2, s_, rv ta, iv mo, iv 3, u_, u_, u_, u_] [.int 3])) rfl (hb hby at_84) rfl (by decide) (cap := 3) (by decide) (by decide) (by decide : 2 + 1 ≤ _) (by decide : 32 + 3 ≤ _)
        obtain ⟨ad182, g_ad182⟩ : ∃ z, z = hH13.size := ⟨_, rfl⟩
        rw [← g_ad182] at A182 st182
        have g183 := f0H13.ext E182
        have g184 := f1H13.ext E182
        have g185 := f2H13.ext E182
        have g186 := f3H13.ext E182
        have ne182_1 : ta ≠ ad182 := Nat.ne_of_lt (by rw [g_ad182]; exact f0H13.lt)
        have ne182_2 : tb ≠ ad182 := Nat.ne_of_lt (by rw [g_ad182]; exact f3H13.lt)
        have o182 : n0 ≤ ad182 := (Nat.le_trans ZH13 (Nat.le_of_eq g_ad182.symm))
        have Z182 : n0 ≤ h182.size := (Nat.le_trans ZH13 E182.1)
        have O182 : Old Z n0 h182 := OH13.ext E182
        have C187 := CH13.trans (CHr.ext E182 CH13.1)
        have J187 := Nat.le_trans JH13 E182.1
        have sf187_ad182 : Safe Z own_EL _ h182 ad182 := Safe.ext E182 CH13.1 (Safe.new (Nat.le_of_eq g_ad182.symm))
        have V182 : Arv Z h182 ad182 k182 .char (3 : Int32) [(.int (0 : Int32)), (.int (0 : Int32)), (.int (0 : Int32))] (.int (0 : Int32)) := (Arv.new A182 (by decide)).pad (pad_rep [] (.int (0 : Int32)) 3)
        refine own_sW T182 (mkF m 86 #[iv p0, iv p1, own_j p2, s_, rv ta, iv mo, iv 3, u_, u_, u_, u_] [.ref ad182]) st182 ?_
        refine own_sW T182 (mkF m 88 #[iv p0, iv p1, own_j p2, s_, rv ta, iv mo, iv 3, rv ad182, u_, u_, u_] []) (fun t k => XS.astore X182.here hx rfl (hb hby at_86) rfl rfl (l' := #[iv p0, iv p1, own_j p2, s_, rv ta, iv mo, iv 3, rv ad182, u_, u_, u_]) rfl k) ?_
        refine own_sW T182 (mkF m 90 #[iv p0, iv p1, own_j p2, s_, rv ta, iv mo, iv 3, rv ad182, u_, u_, u_] [.int 3]) (fun t k => XS.iload X182.here hx rfl (hb hby at_88) rfl k) ?_
        refine own_sW T182 (mkF m 93 #[iv p0, iv p1, own_j p2, s_, rv ta, iv mo, iv 3, rv ad182, u_, u_, u_] []) (fun t k => XS.ifNo X182.here hx rfl (hb hby at_90) rfl ((if0 _ _).trans (tlt (by decide : ((0 : Int32) < (3 : Int32)))).2.2.2) k) ?_
        refine own_sW T182 (mkF m 95 #[iv p0, iv p1, own_j p2, s_, rv ta, iv mo, iv 3, rv ad182, u_, u_, u_] [.ref ad182]) (fun t k => XS.aload X182.here hx rfl (hb hby at_93) rfl rfl k) ?_
        refine own_sW T182 (mkF m 96 #[iv p0, iv p1, own_j p2, s_, rv ta, iv mo, iv 3, rv ad182, u_, u_, u_] [.int 0, .ref ad182]) (fun t k => XS.iconst X182.here hx rfl (hb hby at_95) k) ?_
        refine own_sW T182 (mkF m 97 #[iv p0, iv p1, own_j p2, s_, rv ta, iv mo, iv 3, rv ad182, u_, u_, u_] [.int 0, .int 0, .ref ad182]) (fun t k => XS.iconst X182.here hx rfl (hb hby at_96) k) ?_
        refine own_sW T182 (mkF m 99 #[iv p0, iv p1, own_j p2, s_, rv ta, iv mo, iv 3, rv ad182, u_, u_, u_] [.ref ta, .int 0, .int 0, .ref ad182]) (fun t k => XS.aload X182.here hx rfl (hb hby at_97) rfl rfl k) ?_
        refine own_sW T182 (mkF m 100 #[iv p0, iv p1, own_j p2, s_, rv ta, iv mo, iv 3, rv ad182, u_, u_, u_] [.int p0, .ref ta, .int 0, .int 0, .ref ad182]) (fun t k => XS.iloadN X182.here hx rfl (hb hby at_99) rfl k) ?_
        refine own_sW T182 (mkF m 101 #[iv p0, iv p1, own_j p2, s_, rv ta, iv mo, iv 3, rv ad182, u_, u_, u_] [.long p2, .int p0, .ref ta, .int 0, .int 0, .ref ad182]) (fun t k => XS.lloadN X182.here hx rfl (hb hby at_100) rfl k) ?_
        obtain ⟨_, _, ⟨T190, L190, k190, n190⟩, -, X190, ⟨Lc190, hQ190, lq190, yq190, zq190⟩, st190⟩ := Jvm.LawKit.callS X182 hx (y := (⟨"com/example/umpire/umpire/xsts/ValidityOfPinLaw", "ch", "(ILjava/lang/String;IJ)C"⟩ : MethodName)) hown (mvT hZ (hW 22 _ rfl)) (mvT hZ (hW 23 _ rfl)) (mvT hZ (hW 24 _ rfl)) (mvT hZ (hW 25 _ rfl)) (by decide) (backOf (W := 2) (rm_ch l Z a0 hw [] ta tb tk tn tl (0 : Int32) p0 p2 fm ic h182 n0 Z182 g183 g184 g185 g186 O182 hfm S_f htf (by decide) S_c hic) hZ (hW 25 _ rfl) (hW 24 _ rfl) (by decide) (by decide)) (g := (mkF m 101 #[iv p0, iv p1, own_j p2, s_, rv ta, iv mo, iv 3, rv ad182, u_, u_, u_] [.long p2, .int p0, .ref ta, .int 0, .int 0, .ref ad182])) rfl (by rw [hml]; rfl) (argsL := [(.int (0 : Int32)), (.ref ta), (.int p0), (.long p2)]) (rest := [(.int (0 : Int32)), (.ref ad182)]) (lenOf pd_20 rfl) rfl (by show 2 * 0 + _ ≤ _; exact Nat.le_of_eq rfl) (hb hby at_101) (fun _ _ => ⟨rfl, e182, (by decide : 3 + 0 ≤ _), (by decide : 35 + 0 ≤ _)⟩)
        dsimp only [Pt.U, Pt.locs, Pt.cells, Pt.slots] at X190 lq190 yq190 zq190 st190 hQ190
        subst lq190 yq190 zq190
        obtain ⟨rfl, Nq190, eq189⟩ := hQ190
        have N190 := Fr.app NJ82 Nq190
        refine own_sW T190 (mkF m 104 #[iv p0, iv p1, own_j p2, s_, rv ta, iv mo, iv 3, rv ad182, u_, u_, u_] [.int (nar .char (own_chv tl tn p0 (0 : Int32) p2)), .int 0, .ref ad182]) st190 ?_
        have hb0 := own_c255 tl tn p0 (0 : Int32) p2
        revert hb0
        generalize (nar .char (own_chv tl tn p0 (0 : Int32) p2)) = c0
        intro hb0
        obtain ⟨cl191, Ar191, qa191, S191, M191, H191, U191⟩ := id V182
        obtain ⟨T191, h191, X191, e191, W191, st191⟩ := stC X190 hx hZ eq189 Ar191 (j := (0 : Int32)) (inb_of S191 ⟨by decide, by decide⟩) (g := (mkF m 104 #[iv p0, iv p1, own_j p2, s_, rv ta, iv mo, iv 3, rv ad182, u_, u_, u_] [.int c0, .int 0, .ref ad182])) rfl rfl (hb hby at_104)
        have g192 := g183.wr W191
        have g193 := g184.other W191 (Or.inl ne182_1)
        have g194 := g185.other W191 (Or.inl ne182_1)
        have g195 := g186.other W191 ne182_2
        have g196 : Arv Z h191 ad182 k182 .char (3 : Int32) [(.int (nar .char c0)), (.int (0 : Int32)), (.int (0 : Int32))] (.int (0 : Int32)) := Arv.set Ar191 qa191 S191 M191 H191 U191 (fits_nar_char _) W191 0 rfl (Nat.le_of_ble_eq_true rfl)
        have C197 := C187.trans (CHr.wr W191 sf187_ad182 C187.1)
        have J197 := Nat.le_trans J187 (Nat.le_of_eq W191.size.symm)
        have sf197_ad182 := Safe.wr W191 sf187_ad182 C187.1 sf187_ad182
        have N191 := Fr.snoc X191 N190 o182
        have Z191 : n0 ≤ h191.size := (Nat.le_trans Z182 (Nat.le_of_eq W191.size.symm))
        have O191 : Old Z n0 h191 := O182.wr W191 o182
        refine own_sW T191 (mkF m 105 #[iv p0, iv p1, own_j p2, s_, rv ta, iv mo, iv 3, rv ad182, u_, u_, u_] []) st191 ?_
        refine own_sW T191 (mkF m 107 #[iv p0, iv p1, own_j p2, s_, rv ta, iv mo, iv 3, rv ad182, u_, u_, u_] [.int 3]) (fun t k => XS.iload X191.here hx rfl (hb hby at_105) rfl k) ?_
        refine own_sW T191 (mkF m 108 #[iv p0, iv p1, own_j p2, s_, rv ta, iv mo, iv 3, rv ad182, u_, u_, u_] [.int 1, .int 3]) (fun t k => XS.iconst X191.here hx rfl (hb hby at_107) k) ?_
        refine own_sW T191 (mkF m 111 #[iv p0, iv p1, own_j p2, s_, rv ta, iv mo, iv 3, rv ad182, u_, u_, u_] []) (fun t k => XS.icmpNo X191.here hx rfl (hb hby at_108) rfl (tlt (by decide : ((1 : Int32) < (3 : Int32)))).2.2.2 k) ?_
        refine own_sW T191 (mkF m 113 #[iv p0, iv p1, own_j p2, s_, rv ta, iv mo, iv 3, rv ad182, u_, u_, u_] [.ref ad182]) (fun t k => XS.aload X191.here hx rfl (hb hby at_111) rfl rfl k) ?_
        refine own_sW T191 (mkF m 114 #[iv p0, iv p1, own_j p2, s_, rv ta, iv mo, iv 3, rv ad182, u_, u_, u_] [.int 1, .ref ad182]) (fun t k => XS.iconst X191.here hx rfl (hb hby at_113) k) ?_
        refine own_sW T191 (mkF m 115 #[iv p0, iv p1, own_j p2, s_, rv ta, iv mo, iv 3, rv ad182, u_, u_, u_] [.int 1, .int 1, .ref ad182]) (fun t k => XS.iconst X191.here hx rfl (hb hby at_114) k) ?_
        refine own_sW T191 (mkF m 117 #[iv p0, iv p1, own_j p2, s_, rv ta, iv mo, iv 3, rv ad182, u_, u_, u_] [.ref ta, .int 1, .int 1, .ref ad182]) (fun t k => XS.aload X191.here hx rfl (hb hby at_115) rfl rfl k) ?_
        refine own_sW T191 (mkF m 118 #[iv p0, iv p1, own_j p2, s_, rv ta, iv mo, iv 3, rv ad182, u_, u_, u_] [.int p0, .ref ta, .int 1, .int 1, .ref ad182]) (fun t k => XS.iloadN X191.here hx rfl (hb hby at_117) rfl k) ?_
        refine own_sW T191 (mkF m 119 #[iv p0, iv p1, own_j p2, s_, rv ta, iv mo, iv 3, rv ad182, u_, u_, u_] [.long p2, .int p0, .ref ta, .int 1, .int 1, .ref ad182]) (fun t k => XS.lloadN X191.here hx rfl (hb hby at_118) rfl k) ?_
        obtain ⟨_, _, ⟨T200, L200, k200, n200⟩, -, X200, ⟨Lc200, hQ200, lq200, yq200, zq200⟩, st200⟩ := Jvm.LawKit.callS X191 hx (y := (⟨"com/example/umpire/umpire/xsts/ValidityOfPinLaw", "ch", "(ILjava/lang/String;IJ)C"⟩ : MethodName)) hown (mvT hZ (hW 22 _ rfl)) (mvT hZ (hW 23 _ rfl)) (mvT hZ (hW 24 _ rfl)) (mvT hZ (hW 25 _ rfl)) (by decide) (backOf (W := 2) (rm_ch l Z a0 hw [] ta tb tk tn tl (1 : Int32) p0 p2 fm ic h191 n0 Z191 g192 g193 g194 g195 O191 hfm S_f htf (by decide) S_c hic) hZ (hW 25 _ rfl) (hW 24 _ rfl) (by decide) (by decide)) (g := (mkF m 119 #[iv p0, iv p1, own_j p2, s_, rv ta, iv mo, iv 3, rv ad182, u_, u_, u_] [.long p2, .int p0, .ref ta, .int 1, .int 1, .ref ad182])) rfl (by rw [hml]; rfl) (argsL := [(.int (1 : Int32)), (.ref ta), (.int p0), (.long p2)]) (rest := [(.int (1 : Int32)), (.ref ad182)]) (lenOf pd_20 rfl) rfl (by show 2 * 0 + _ ≤ _; exact Nat.le_of_eq rfl) (hb hby at_119) (fun _ _ => ⟨rfl, e191, (by decide : 3 + 0 ≤ _), (by decide : 35 + 0 ≤ _)⟩)
        dsimp only [Pt.U, Pt.locs, Pt.cells, Pt.slots] at X200 lq200 yq200 zq200 st200 hQ200
        subst lq200 yq200 zq200
        obtain ⟨rfl, Nq200, eq199⟩ := hQ200
        have N200 := Fr.app N191 Nq200
        refine own_sW T200 (mkF m 122 #[iv p0, iv p1, own_j p2, s_, rv ta, iv mo, iv 3, rv ad182, u_, u_, u_] [.int (nar .char (own_chv tl tn p0 (1 : Int32) p2)), .int 1, .ref ad182]) st200 ?_
        have hb1 := own_c255 tl tn p0 (1 : Int32) p2
        revert hb1
        generalize (nar .char (own_chv tl tn p0 (1 : Int32) p2)) = c1
        intro hb1
        obtain ⟨cl201, Ar201, qa201, S201, M201, H201, U201⟩ := id g196
        obtain ⟨T201, h201, X201, e201, W201, st201⟩ := stC X200 hx hZ eq199 Ar201 (j := (1 : Int32)) (inb_of S201 ⟨by decide, by decide⟩) (g := (mkF m 122 #[iv p0, iv p1, own_j p2, s_, rv ta, iv mo, iv 3, rv ad182, u_, u_, u_] [.int c1, .int 1, .ref ad182])) rfl rfl (hb hby at_122)
        have g202 := g192.wr W201
        have g203 := g193.other W201 (Or.inl ne182_1)
        have g204 := g194.other W201 (Or.inl ne182_1)
        have g205 := g195.other W201 ne182_2
        have g206 : Arv Z h201 ad182 k182 .char (3 : Int32) [(.int (nar .char c0)), (.int (nar .char c1)), (.int (0 : Int32))] (.int (0 : Int32)) := Arv.set Ar201 qa201 S201 M201 H201 U201 (fits_nar_char _) W201 1 rfl (Nat.le_of_ble_eq_true rfl)
        have C207 := C197.trans (CHr.wr W201 sf197_ad182 C197.1)
        have J207 := Nat.le_trans J197 (Nat.le_of_eq W201.size.symm)
        have sf207_ad182 := Safe.wr W201 sf197_ad182 C197.1 sf197_ad182
        have N201 := Fr.snoc X201 N200 o182
        have Z201 : n0 ≤ h201.size := (Nat.le_trans Z191 (Nat.le_of_eq W201.size.symm))
        have O201 : Old Z n0 h201 := O191.wr W201 o182
        refine own_sW T201 (mkF m 123 #[iv p0, iv p1, own_j p2, s_, rv ta, iv mo, iv 3, rv ad182, u_, u_, u_] []) st201 ?_
        refine own_sW T201 (mkF m 125 #[iv p0, iv p1, own_j p2, s_, rv ta, iv mo, iv 3, rv ad182, u_, u_, u_] [.int 3]) (fun t k => XS.iload X201.here hx rfl (hb hby at_123) rfl k) ?_
        refine own_sW T201 (mkF m 126 #[iv p0, iv p1, own_j p2, s_, rv ta, iv mo, iv 3, rv ad182, u_, u_, u_] [.int 2, .int 3]) (fun t k => XS.iconst X201.here hx rfl (hb hby at_125) k) ?_
        refine own_sW T201 (mkF m 129 #[iv p0, iv p1, own_j p2, s_, rv ta, iv mo, iv 3, rv ad182, u_, u_, u_] []) (fun t k => XS.icmpNo X201.here hx rfl (hb hby at_126) rfl (tlt (by decide : ((2 : Int32) < (3 : Int32)))).2.2.2 k) ?_
        refine own_sW T201 (mkF m 131 #[iv p0, iv p1, own_j p2, s_, rv ta, iv mo, iv 3, rv ad182, u_, u_, u_] [.ref ad182]) (fun t k => XS.aload X201.here hx rfl (hb hby at_129) rfl rfl k) ?_
        refine own_sW T201 (mkF m 132 #[iv p0, iv p1, own_j p2, s_, rv ta, iv mo, iv 3, rv ad182, u_, u_, u_] [.int 2, .ref ad182]) (fun t k => XS.iconst X201.here hx rfl (hb hby at_131) k) ?_
        refine own_sW T201 (mkF m 133 #[iv p0, iv p1, own_j p2, s_, rv ta, iv mo, iv 3, rv ad182, u_, u_, u_] [.int 2, .int 2, .ref ad182]) (fun t k => XS.iconst X201.here hx rfl (hb hby at_132) k) ?_
        refine own_sW T201 (mkF m 135 #[iv p0, iv p1, own_j p2, s_, rv ta, iv mo, iv 3, rv ad182, u_, u_, u_] [.ref ta, .int 2, .int 2, .ref ad182]) (fun t k => XS.aload X201.here hx rfl (hb hby at_133) rfl rfl k) ?_
        refine own_sW T201 (mkF m 136 #[iv p0, iv p1, own_j p2, s_, rv ta, iv mo, iv 3, rv ad182, u_, u_, u_] [.int p0, .ref ta, .int 2, .int 2, .ref ad182]) (fun t k => XS.iloadN X201.here hx rfl (hb hby at_135) rfl k) ?_
        refine own_sW T201 (mkF m 137 #[iv p0, iv p1, own_j p2, s_, rv ta, iv mo, iv 3, rv ad182, u_, u_, u_] [.long p2, .int p0, .ref ta, .int 2, .int 2, .ref ad182]) (fun t k => XS.lloadN X201.here hx rfl (hb hby at_136) rfl k) ?_
        obtain ⟨_, _, ⟨T210, L210, k210, n210⟩, -, X210, ⟨Lc210, hQ210, lq210, yq210, zq210⟩, st210⟩ := Jvm.LawKit.callS X201 hx (y := (⟨"com/example/umpire/umpire/xsts/ValidityOfPinLaw", "ch", "(ILjava/lang/String;IJ)C"⟩ : MethodName)) hown (mvT hZ (hW 22 _ rfl)) (mvT hZ (hW 23 _ rfl)) (mvT hZ (hW 24 _ rfl)) (mvT hZ (hW 25 _ rfl)) (by decide) (backOf (W := 2) (rm_ch l Z a0 hw [] ta tb tk tn tl (2 : Int32) p0 p2 fm ic h201 n0 Z201 g202 g203 g204 g205 O201 hfm S_f htf (by decide) S_c hic) hZ (hW 25 _ rfl) (hW 24 _ rfl) (by decide) (by decide)) (g := (mkF m 137 #[iv p0, iv p1, own_j p2, s_, rv ta, iv mo, iv 3, rv ad182, u_, u_, u_] [.long p2, .int p0, .ref ta, .int 2, .int 2, .ref ad182])) rfl (by rw [hml]; rfl) (argsL := [(.int (2 : Int32)), (.ref ta), (.int p0), (.long p2)]) (rest := [(.int (2 : Int32)), (.ref ad182)]) (lenOf pd_20 rfl) rfl (by show 2 * 0 + _ ≤ _; exact Nat.le_of_eq rfl) (hb hby at_137) (fun _ _ => ⟨rfl, e201, (by decide : 3 + 0 ≤ _), (by decide : 35 + 0 ≤ _)⟩)
        dsimp only [Pt.U, Pt.locs, Pt.cells, Pt.slots] at X210 lq210 yq210 zq210 st210 hQ210
        subst lq210 yq210 zq210
        obtain ⟨rfl, Nq210, eq209⟩ := hQ210
        have N210 := Fr.app N201 Nq210
        refine own_sW T210 (mkF m 140 #[iv p0, iv p1, own_j p2, s_, rv ta, iv mo, iv 3, rv ad182, u_, u_, u_] [.int (nar .char (own_chv tl tn p0 (2 : Int32) p2)), .int 2, .ref ad182]) st210 ?_
        have hb2 := own_c255 tl tn p0 (2 : Int32) p2
        revert hb2
        generalize (nar .char (own_chv tl tn p0 (2 : Int32) p2)) = c2
        intro hb2
        obtain ⟨cl211, Ar211, qa211, S211, M211, H211, U211⟩ := id g206
        obtain ⟨T211, h211, X211, e211, W211, st211⟩ := stC X210 hx hZ eq209 Ar211 (j := (2 : Int32)) (inb_of S211 ⟨by decide, by decide⟩) (g := (mkF m 140 #[iv p0, iv p1, own_j p2, s_, rv ta, iv mo, iv 3, rv ad182, u_, u_, u_] [.int c2, .int 2, .ref ad182])) rfl rfl (hb hby at_140)
        have g212 := g202.wr W211
        have g213 := g203.other W211 (Or.inl ne182_1)
        have g214 := g204.other W211 (Or.inl ne182_1)
        have g215 := g205.other W211 ne182_2
        have g216 : Arv Z h211 ad182 k182 .char (3 : Int32) [(.int (nar .char c0)), (.int (nar .char c1)), (.int (nar .char c2))] (.int (0 : Int32)) := Arv.set Ar211 qa211 S211 M211 H211 U211 (fits_nar_char _) W211 2 rfl (Nat.le_of_ble_eq_true rfl)
        have C217 := C207.trans (CHr.wr W211 sf207_ad182 C207.1)
        have J217 := Nat.le_trans J207 (Nat.le_of_eq W211.size.symm)
        have sf217_ad182 := Safe.wr W211 sf207_ad182 C207.1 sf207_ad182
        have N211 := Fr.snoc X211 N210 o182
        have Z211 : n0 ≤ h211.size := (Nat.le_trans Z201 (Nat.le_of_eq W211.size.symm))
        have O211 : Old Z n0 h211 := O201.wr W211 o182
        refine own_sW T211 (mkF m 141 #[iv p0, iv p1, own_j p2, s_, rv ta, iv mo, iv 3, rv ad182, u_, u_, u_] []) st211 ?_
        refine own_sW T211 (mkF m 143 #[iv p0, iv p1, own_j p2, s_, rv ta, iv mo, iv 3, rv ad182, u_, u_, u_] [.int 3]) (fun t k => XS.iload X211.here hx rfl (hb hby at_141) rfl k) ?_
        refine own_sW T211 (mkF m 144 #[iv p0, iv p1, own_j p2, s_, rv ta, iv mo, iv 3, rv ad182, u_, u_, u_] [.int 3, .int 3]) (fun t k => XS.iconst X211.here hx rfl (hb hby at_143) k) ?_
        refine own_sW T211 (mkF m 159 #[iv p0, iv p1, own_j p2, s_, rv ta, iv mo, iv 3, rv ad182, u_, u_, u_] []) (fun t k => XS.icmpYes X211.here hx rfl (pc0 := 144) (pc' := 159) rfl (hb hby at_144) rfl (flt (by decide : ¬ ((3 : Int32) < (3 : Int32)))).2.2.2 (by decide) (by decide) k) ?_
        refine own_sW T211 (mkF m 161 #[iv p0, iv p1, own_j p2, s_, rv ta, iv mo, iv 3, rv ad182, u_, u_, u_] [.int 3]) (fun t k => XS.iload X211.here hx rfl (hb hby at_159) rfl k) ?_
        refine own_sW T211 (mkF m 162 #[iv p0, iv p1, own_j p2, s_, rv ta, iv mo, iv 3, rv ad182, u_, u_, u_] [.int 4, .int 3]) (fun t k => XS.iconst X211.here hx rfl (hb hby at_161) k) ?_
        refine own_sW T211 (mkF m 177 #[iv p0, iv p1, own_j p2, s_, rv ta, iv mo, iv 3, rv ad182, u_, u_, u_] []) (fun t k => XS.icmpYes X211.here hx rfl (pc0 := 162) (pc' := 177) rfl (hb hby at_162) rfl (flt (by decide : ¬ ((4 : Int32) < (3 : Int32)))).2.2.2 (by decide) (by decide) k) ?_
        refine own_sW T211 (mkF m 179 #[iv p0, iv p1, own_j p2, s_, rv ta, iv mo, iv 3, rv ad182, u_, u_, u_] [.int 3]) (fun t k => XS.iload X211.here hx rfl (hb hby at_177) rfl k) ?_
        refine own_sW T211 (mkF m 180 #[iv p0, iv p1, own_j p2, s_, rv ta, iv mo, iv 3, rv ad182, u_, u_, u_] [.int 5, .int 3]) (fun t k => XS.iconst X211.here hx rfl (hb hby at_179) k) ?_
        refine own_sW T211 (mkF m 195 #[iv p0, iv p1, own_j p2, s_, rv ta, iv mo, iv 3, rv ad182, u_, u_, u_] []) (fun t k => XS.icmpYes X211.here hx rfl (pc0 := 180) (pc' := 195) rfl (hb hby at_180) rfl (flt (by decide : ¬ ((5 : Int32) < (3 : Int32)))).2.2.2 (by decide) (by decide) k) ?_
        refine own_sW T211 (mkF m 197 #[iv p0, iv p1, own_j p2, s_, rv ta, iv mo, iv 3, rv ad182, u_, u_, u_] [.int 3]) (fun t k => XS.iload X211.here hx rfl (hb hby at_195) rfl k) ?_
        refine own_sW T211 (mkF m 199 #[iv p0, iv p1, own_j p2, s_, rv ta, iv mo, iv 3, rv ad182, u_, u_, u_] [.int 6, .int 3]) (fun t k => XS.bipush X211.here hx rfl (hb hby at_197) k) ?_
        refine own_sW T211 (mkF m 216 #[iv p0, iv p1, own_j p2, s_, rv ta, iv mo, iv 3, rv ad182, u_, u_, u_] []) (fun t k => XS.icmpYes X211.here hx rfl (pc0 := 199) (pc' := 216) rfl (hb hby at_199) rfl (flt (by decide : ¬ ((6 : Int32) < (3 : Int32)))).2.2.2 (by decide) (by decide) k) ?_
        refine own_sW T211 (mkF m 218 #[iv p0, iv p1, own_j p2, s_, rv ta, iv mo, iv 3, rv ad182, u_, u_, u_] [.int 3]) (fun t k => XS.iload X211.here hx rfl (hb hby at_216) rfl k) ?_
        refine own_sW T211 (mkF m 220 #[iv p0, iv p1, own_j p2, s_, rv ta, iv mo, iv 3, rv ad182, u_, u_, u_] [.int 7, .int 3]) (fun t k => XS.bipush X211.here hx rfl (hb hby at_218) k) ?_
        refine own_sW T211 (mkF m 237 #[iv p0, iv p1, own_j p2, s_, rv ta, iv mo, iv 3, rv ad182, u_, u_, u_] []) (fun t k => XS.icmpYes X211.here hx rfl (pc0 := 220) (pc' := 237) rfl (hb hby at_220) rfl (flt (by decide : ¬ ((7 : Int32) < (3 : Int32)))).2.2.2 (by decide) (by decide) k) ?_
        exact j237 ad182 k182 (3 : Int32) [(.int (nar .char c0)), (.int (nar .char c1)), (.int (nar .char c2))] (3 : Int32) _ _ T211 h211 _ (X211.mono (by decide) (by decide)) hZ hown e211 N211 Z211 SH13 J217 C217 O211 g216 sf217_ad182 o182 (Or.inr (Or.inr (Or.inl ⟨_, _, _, rfl, rfl, hb0, hb1, hb2⟩)))
      · refine own_sW TJ82 (mkF m 84 #[iv p0, iv p1, own_j p2, s_, rv ta, iv mo, iv 4, u_, u_, u_, u_] [.int 4]) (fun t k => XS.iload XJ82.here hx rfl (hb hby at_82) rfl k) ?_
        obtain ⟨T218, h218, k218, X218, e218, E218, A218, st218⟩ := newP XJ82 hx hZ (hW 21 _ rfl) eJ82 (g := (mkF m 84 #[iv p0, iv p1, own_j p2, s_, rv ta, iv mo, iv 4, u_, u_, u_, u_] [.int 4])) rfl (hb hby at_84) rfl (by decide) (cap := 4) (by decide) (by decide) (by decide : 2 + 1 ≤ _) (by decide : 32 + 4 ≤ _)
        obtain ⟨ad218, g_ad218⟩ : ∃ z, z = hH13.size := ⟨_, rfl⟩
        rw [← g_ad218] at A218 st218
        have g219 := f0H13.ext E218
        have g220 := f1H13.ext E218
        have g221 := f2H13.ext E218
        have g222 := f3H13.ext E218
        have ne218_1 : ta ≠ ad218 := Nat.ne_of_lt (by rw [g_ad218]; exact f0H13.lt)
        have ne218_2 : tb ≠ ad218 := Nat.ne_of_lt (by rw [g_ad218]; exact f3H13.lt)
        have o218 : n0 ≤ ad218 := (Nat.le_trans ZH13 (Nat.le_of_eq g_ad218.symm))
        have Z218 : n0 ≤ h218.size := (Nat.le_trans ZH13 E218.1)
        have O218 : Old Z n0 h218 := OH13.ext E218
        have C223 := CH13.trans (CHr.ext E218 CH13.1)
        have J223 := Nat.le_trans JH13 E218.1
        have sf223_ad218 : Safe Z own_EL _ h218 ad218 := Safe.ext E218 CH13.1 (Safe.new (Nat.le_of_eq g_ad218.symm))
        have V218 : Arv Z h218 ad218 k218 .char (4 : Int32) [(.int (0 : Int32)), (.int (0 : Int32)), (.int (0 : Int32)), (.int (0 : Int32))] (.int (0 : Int32)) := (Arv.new A218 (by decide)).pad (pad_rep [] (.int (0 : Int32)) 4)
        refine own_sW T218 (mkF m 86 #[iv p0, iv p1, own_j p2, s_, rv ta, iv mo, iv 4, u_, u_, u_, u_] [.ref ad218]) st218 ?_
        refine own_sW T218 (mkF m 88 #[iv p0, iv p1, own_j p2, s_, rv ta, iv mo, iv 4, rv ad218, u_, u_, u_] []) (fun t k => XS.astore X218.here hx rfl (hb hby at_86) rfl rfl (l' := #[iv p0, iv p1, own_j p2, s_, rv ta, iv mo, iv 4, rv ad218, u_, u_, u_]) rfl k) ?_
        refine own_sW T218 (mkF m 90 #[iv p0, iv p1, own_j p2, s_, rv ta, iv mo, iv 4, rv ad218, u_, u_, u_] [.int 4]) (fun t k => XS.iload X218.here hx rfl (hb hby at_88) rfl k) ?_
        refine own_sW T218 (mkF m 93 #[iv p0, iv p1, own_j p2, s_, rv ta, iv mo, iv 4, rv ad218, u_, u_, u_] []) (fun t k => XS.ifNo X218.here hx rfl (hb hby at_90) rfl ((if0 _ _).trans (tlt (by decide : ((0 : Int32) < (4 : Int32)))).2.2.2) k) ?_
        refine own_sW T218 (mkF m 95 #[iv p0, iv p1, own_j p2, s_, rv ta, iv mo, iv 4, rv ad218, u_, u_, u_] [.ref ad218]) (fun t k => XS.aload X218.here hx rfl (hb hby at_93) rfl rfl k) ?_
        refine own_sW T218 (mkF m 96 #[iv p0, iv p1, own_j p2, s_, rv ta, iv mo, iv 4, rv ad218, u_, u_, u_] [.int 0, .ref ad218]) (fun t k => XS.iconst X218.here hx rfl (hb hby at_95) k) ?_
        refine own_sW T218 (mkF m 97 #[iv p0, iv p1, own_j p2, s_, rv ta, iv mo, iv 4, rv ad218, u_, u_, u_] [.int 0, .int 0, .ref ad218]) (fun t k => XS.iconst X218.here hx rfl (hb hby at_96) k) ?_
        refine own_sW T218 (mkF m 99 #[iv p0, iv p1, own_j p2, s_, rv ta, iv mo, iv 4, rv ad218, u_, u_, u_] [.ref ta, .int 0, .int 0, .ref ad218]) (fun t k => XS.aload X218.here hx rfl (hb hby at_97) rfl rfl k) ?_
        refine own_sW T218 (mkF m 100 #[iv p0, iv p1, own_j p2, s_, rv ta, iv mo, iv 4, rv ad218, u_, u_, u_] [.int p0, .ref ta, .int 0, .int 0, .ref ad218]) (fun t k => XS.iloadN X218.here hx rfl (hb hby at_99) rfl k) ?_
        refine own_sW T218 (mkF m 101 #[iv p0, iv p1, own_j p2, s_, rv ta, iv mo, iv 4, rv ad218, u_, u_, u_] [.long p2, .int p0, .ref ta, .int 0, .int 0, .ref ad218]) (fun t k => XS.lloadN X218.here hx rfl (hb hby at_100) rfl k) ?_
        obtain ⟨_, _, ⟨T226, L226, k226, n226⟩, -, X226, ⟨Lc226, hQ226, lq226, yq226, zq226⟩, st226⟩ := Jvm.LawKit.callS X218 hx (y := (⟨"com/example/umpire/umpire/xsts/ValidityOfPinLaw", "ch", "(ILjava/lang/String;IJ)C"⟩ : MethodName)) hown (mvT hZ (hW 22 _ rfl)) (mvT hZ (hW 23 _ rfl)) (mvT hZ (hW 24 _ rfl)) (mvT hZ (hW 25 _ rfl)) (by decide) (backOf (W := 2) (rm_ch l Z a0 hw [] ta tb tk tn tl (0 : Int32) p0 p2 fm ic h218 n0 Z218 g219 g220 g221 g222 O218 hfm S_f htf (by decide) S_c hic) hZ (hW 25 _ rfl) (hW 24 _ rfl) (by decide) (by decide)) (g := (mkF m 101 #[iv p0, iv p1, own_j p2, s_, rv ta, iv mo, iv 4, rv ad218, u_, u_, u_] [.long p2, .int p0, .ref ta, .int 0, .int 0, .ref ad218])) rfl (by rw [hml]; rfl) (argsL := [(.int (0 : Int32)), (.ref ta), (.int p0), (.long p2)]) (rest := [(.int (0 : Int32)), (.ref ad218)]) (lenOf pd_20 rfl) rfl (by show 2 * 0 + _ ≤ _; exact Nat.le_of_eq rfl) (hb hby at_101) (fun _ _ => ⟨rfl, e218, (by decide : 3 + 0 ≤ _), (by decide : 36 + 0 ≤ _)⟩)
        dsimp only [Pt.U, Pt.locs, Pt.cells, Pt.slots] at X226 lq226 yq226 zq226 st226 hQ226
        subst lq226 yq226 zq226
        obtain ⟨rfl, Nq226, eq225⟩ := hQ226
        have N226 := Fr.app NJ82 Nq226
        refine own_sW T226 (mkF m 104 #[iv p0, iv p1, own_j p2, s_, rv ta, iv mo, iv 4, rv ad218, u_, u_, u_] [.int (nar .char (own_chv tl tn p0 (0 : Int32) p2)), .int 0, .ref ad218]) st226 ?_
        have hb0 := own_c255 tl tn p0 (0 : Int32) p2
        revert hb0
        generalize (nar .char (own_chv tl tn p0 (0 : Int32) p2)) = c0
        intro hb0
        obtain ⟨cl227, Ar227, qa227, S227, M227, H227, U227⟩ := id V218
        obtain ⟨T227, h227, X227, e227, W227, st227⟩ := stC X226 hx hZ eq225 Ar227 (j := (0 : Int32)) (inb_of S227 ⟨by decide, by decide⟩) (g := (mkF m 104 #[iv p0, iv p1, own_j p2, s_, rv ta, iv mo, iv 4, rv ad218, u_, u_, u_] [.int c0, .int 0, .ref ad218])) rfl rfl (hb hby at_104)
        have g228 := g219.wr W227
        have g229 := g220.other W227 (Or.inl ne218_1)
        have g230 := g221.other W227 (Or.inl ne218_1)
        have g231 := g222.other W227 ne218_2
        have g232 : Arv Z h227 ad218 k218 .char (4 : Int32) [(.int (nar .char c0)), (.int (0 : Int32)), (.int (0 : Int32)), (.int (0 : Int32))] (.int (0 : Int32)) := Arv.set Ar227 qa227 S227 M227 H227 U227 (fits_nar_char _) W227 0 rfl (Nat.le_of_ble_eq_true rfl)
        have C233 := C223.trans (CHr.wr W227 sf223_ad218 C223.1)
        have J233 := Nat.le_trans J223 (Nat.le_of_eq W227.size.symm)
        have sf233_ad218 := Safe.wr W227 sf223_ad218 C223.1 sf223_ad218
        have N227 := Fr.snoc X227 N226 o218
        have Z227 : n0 ≤ h227.size := (Nat.le_trans Z218 (Nat.le_of_eq W227.size.symm))
        have O227 : Old Z n0 h227 := O218.wr W227 o218
        refine own_sW T227 (mkF m 105 #[iv p0, iv p1, own_j p2, s_, rv ta, iv mo, iv 4, rv ad218, u_, u_, u_] []) st227 ?_
        refine own_sW T227 (mkF m 107 #[iv p0, iv p1, own_j p2, s_, rv ta, iv mo, iv 4, rv ad218, u_, u_, u_] [.int 4]) (fun t k => XS.iload X227.here hx rfl (hb hby at_105) rfl k) ?_
        refine own_sW T227 (mkF m 108 #[iv p0, iv p1, own_j p2, s_, rv ta, iv mo, iv 4, rv ad218, u_, u_, u_] [.int 1, .int 4]) (fun t k => XS.iconst X227.here hx rfl (hb hby at_107) k) ?_
        refine own_sW T227 (mkF m 111 #[iv p0, iv p1, own_j p2, s_, rv ta, iv mo, iv 4, rv ad218, u_, u_, u_] []) (fun t k => XS.icmpNo X227.here hx rfl (hb hby at_108) rfl (tlt (by decide : ((1 : Int32) < (4 : Int32)))).2.2.2 k) ?_
        refine own_sW T227 (mkF m 113 #[iv p0, iv p1, own_j p2, s_, rv ta, iv mo, iv 4, rv ad218, u_, u_, u_] [.ref ad218]) (fun t k => XS.aload X227.here hx rfl (hb hby at_111) rfl rfl k) ?_
        refine own_sW T227 (mkF m 114 #[iv p0, iv p1, own_j p2, s_, rv ta, iv mo, iv 4, rv ad218, u_, u_, u_] [.int 1, .ref ad218]) (fun t k => XS.iconst X227.here hx rfl (hb hby at_113) k) ?_
        refine own_sW T227 (mkF m 115 #[iv p0, iv p1, own_j p2, s_, rv ta, iv mo, iv 4, rv ad218, u_, u_, u_] [.int 1, .int 1, .ref ad218]) (fun t k => XS.iconst X227.here hx rfl (hb hby at_114) k) ?_
        refine own_sW T227 (mkF m 117 #[iv p0, iv p1, own_j p2, s_, rv ta, iv mo, iv 4, rv ad218, u_, u_, u_] [.ref ta, .int 1, .int 1, .ref ad218]) (fun t k => XS.aload X227.here hx rfl (hb hby at_115) rfl rfl k) ?_
        refine own_sW T227 (mkF m 118 #[iv p0, iv p1, own_j p2, s_, rv ta, iv mo, iv 4, rv ad218, u_, u_, u_] [.int p0, .ref ta, .int 1, .int 1, .ref ad218]) (fun t k => XS.iloadN X227.here hx rfl (hb hby at_117) rfl k) ?_
        refine own_sW T227 (mkF m 119 #[iv p0, iv p1, own_j p2, s_, rv ta, iv mo, iv 4, rv ad218, u_, u_, u_] [.long p2, .int p0, .ref ta, .int 1, .int 1, .ref ad218]) (fun t k => XS.lloadN X227.here hx rfl (hb hby at_118) rfl k) ?_
        obtain ⟨_, _, ⟨T236, L236, k236, n236⟩, -, X236, ⟨Lc236, hQ236, lq236, yq236, zq236⟩, st236⟩ := Jvm.LawKit.callS X227 hx (y := (⟨"com/example/umpire/umpire/xsts/ValidityOfPinLaw", "ch", "(ILjava/lang/String;IJ)C"⟩ : MethodName)) hown (mvT hZ (hW 22 _ rfl)) (mvT hZ (hW 23 _ rfl)) (mvT hZ (hW 24 _ rfl)) (mvT hZ (hW 25 _ rfl)) (by decide) (backOf (W := 2) (rm_ch l Z a0 hw [] ta tb tk tn tl (1 : Int32) p0 p2 fm ic h227 n0 Z227 g228 g229 g230 g231 O227 hfm S_f htf (by decide) S_c hic) hZ (hW 25 _ rfl) (hW 24 _ rfl) (by decide) (by decide)) (g := (mkF m 119 #[iv p0, iv p1, own_j p2, s_, rv ta, iv mo, iv 4, rv ad218, u_, u_, u_] [.long p2, .int p0, .ref ta, .int 1, .int 1, .ref ad218])) rfl (by rw [hml]; rfl) (argsL := [(.int (1 : Int32)), (.ref ta), (.int p0), (.long p2)]) (rest := [(.int (1 : Int32)), (.ref ad218)]) (lenOf pd_20 rfl) rfl (by show 2 * 0 + _ ≤ _; exact Nat.le_of_eq rfl) (hb hby at_119) (fun _ _ => ⟨rfl, e227, (by decide : 3 + 0 ≤ _), (by decide : 36 + 0 ≤ _)⟩)
        dsimp only [Pt.U, Pt.locs, Pt.cells, Pt.slots] at X236 lq236 yq236 zq236 st236 hQ236
        subst lq236 yq236 zq236
        obtain ⟨rfl, Nq236, eq235⟩ := hQ236
        have N236 := Fr.app N227 Nq236
        refine own_sW T236 (mkF m 122 #[iv p0, iv p1, own_j p2, s_, rv ta, iv mo, iv 4, rv ad218, u_, u_, u_] [.int (nar .char (own_chv tl tn p0 (1 : Int32) p2)), .int 1, .ref ad218]) st236 ?_
        have hb1 := own_c255 tl tn p0 (1 : Int32) p2
        revert hb1
        generalize (nar .char (own_chv tl tn p0 (1 : Int32) p2)) = c1
        intro hb1
        obtain ⟨cl237, Ar237, qa237, S237, M237, H237, U237⟩ := id g232
        obtain ⟨T237, h237, X237, e237, W237, st237⟩ := stC X236 hx hZ eq235 Ar237 (j := (1 : Int32)) (inb_of S237 ⟨by decide, by decide⟩) (g := (mkF m 122 #[iv p0, iv p1, own_j p2, s_, rv ta, iv mo, iv 4, rv ad218, u_, u_, u_] [.int c1, .int 1, .ref ad218])) rfl rfl (hb hby at_122)
        have g238 := g228.wr W237
        have g239 := g229.other W237 (Or.inl ne218_1)
        have g240 := g230.other W237 (Or.inl ne218_1)
        have g241 := g231.other W237 ne218_2
        have g242 : Arv Z h237 ad218 k218 .char (4 : Int32) [(.int (nar .char c0)), (.int (nar .char c1)), (.int (0 : Int32)), (.int (0 : Int32))] (.int (0 : Int32)) := Arv.set Ar237 qa237 S237 M237 H237 U237 (fits_nar_char _) W237 1 rfl (Nat.le_of_ble_eq_true rfl)
        have C243 := C233.trans (CHr.wr W237 sf233_ad218 C233.1)
        have J243 := Nat.le_trans J233 (Nat.le_of_eq W237.size.symm)
        have sf243_ad218 := Safe.wr W237 sf233_ad218 C233.1 sf233_ad218
        have N237 := Fr.snoc X237 N236 o218
        have Z237 : n0 ≤ h237.size := (Nat.le_trans Z227 (Nat.le_of_eq W237.size.symm))
        have O237 : Old Z n0 h237 := O227.wr W237 o218
        refine own_sW T237 (mkF m 123 #[iv p0, iv p1, own_j p2, s_, rv ta, iv mo, iv 4, rv ad218, u_, u_, u_] []) st237 ?_
        refine own_sW T237 (mkF m 125 #[iv p0, iv p1, own_j p2, s_, rv ta, iv mo, iv 4, rv ad218, u_, u_, u_] [.int 4]) (fun t k => XS.iload X237.here hx rfl (hb hby at_123) rfl k) ?_
        refine own_sW T237 (mkF m 126 #[iv p0, iv p1, own_j p2, s_, rv ta, iv mo, iv 4, rv ad218, u_, u_, u_] [.int 2, .int 4]) (fun t k => XS.iconst X237.here hx rfl (hb hby at_125) k) ?_
        refine own_sW T237 (mkF m 129 #[iv p0, iv p1, own_j p2, s_, rv ta, iv mo, iv 4, rv ad218, u_, u_, u_] []) (fun t k => XS.icmpNo X237.here hx rfl (hb hby at_126) rfl (tlt (by decide : ((2 : Int32) < (4 : Int32)))).2.2.2 k) ?_
        refine own_sW T237 (mkF m 131 #[iv p0, iv p1, own_j p2, s_, rv ta, iv mo, iv 4, rv ad218, u_, u_, u_] [.ref ad218]) (fun t k => XS.aload X237.here hx rfl (hb hby at_129) rfl rfl k) ?_
        refine own_sW T237 (mkF m 132 #[iv p0, iv p1, own_j p2, s_, rv ta, iv mo, iv 4, rv ad218, u_, u_, u_] [.int 2, .ref ad218]) (fun t k => XS.iconst X237.here hx rfl (hb hby at_131) k) ?_
        refine own_sW T237 (mkF m 133 #[iv p0, iv p1, own_j p2, s_, rv ta, iv mo, iv 4, rv ad218, u_, u_, u_] [.int 2, .int 2, .ref ad218]) (fun t k => XS.iconst X237.here hx rfl (hb hby at_132) k) ?_
        refine own_sW T237 (mkF m 135 #[iv p0, iv p1, own_j p2, s_, rv ta, iv mo, iv 4, rv ad218, u_, u_, u_] [.ref ta, .int 2, .int 2, .ref ad218]) (fun t k => XS.aload X237.here hx rfl (hb hby at_133) rfl rfl k) ?_
        refine own_sW T237 (mkF m 136 #[iv p0, iv p1, own_j p2, s_, rv ta, iv mo, iv 4, rv ad218, u_, u_, u_] [.int p0, .ref ta, .int 2, .int 2, .ref ad218]) (fun t k => XS.iloadN X237.here hx rfl (hb hby at_135) rfl k) ?_
        refine own_sW T237 (mkF m 137 #[iv p0, iv p1, own_j p2, s_, rv ta, iv mo, iv 4, rv ad218, u_, u_, u_] [.long p2, .int p0, .ref ta, .int 2, .int 2, .ref ad218]) (fun t k => XS.lloadN X237.here hx rfl (hb hby at_136) rfl k) ?_
        obtain ⟨_, _, ⟨T246, L246, k246, n246⟩, -, X246, ⟨Lc246, hQ246, lq246, yq246, zq246⟩, st246⟩ := Jvm.LawKit.callS X237 hx (y := (⟨"com/example/umpire/umpire/xsts/ValidityOfPinLaw", "ch", "(ILjava/lang/String;IJ)C"⟩ : MethodName)) hown (mvT hZ (hW 22 _ rfl)) (mvT hZ (hW 23 _ rfl)) (mvT hZ (hW 24 _ rfl)) (mvT hZ (hW 25 _ rfl)) (by decide) (backOf (W := 2) (rm_ch l Z a0 hw [] ta tb tk tn tl (2 : Int32) p0 p2 fm ic h237 n0 Z237 g238 g239 g240 g241 O237 hfm S_f htf (by decide) S_c hic) hZ (hW 25 _ rfl) (hW 24 _ rfl) (by decide) (by decide)) (g := (mkF m 137 #[iv p0, iv p1, own_j p2, s_, rv ta, iv mo, iv 4, rv ad218, u_, u_, u_] [.long p2, .int p0, .ref ta, .int 2, .int 2, .ref ad218])) rfl (by rw [hml]; rfl) (argsL := [(.int (2 : Int32)), (.ref ta), (.int p0), (.long p2)]) (rest := [(.int (2 : Int32)), (.ref ad218)]) (lenOf pd_20 rfl) rfl (by show 2 * 0 + _ ≤ _; exact Nat.le_of_eq rfl) (hb hby at_137) (fun _ _ => ⟨rfl, e237, (by decide : 3 + 0 ≤ _), (by decide : 36 + 0 ≤ _)⟩)
        dsimp only [Pt.U, Pt.locs, Pt.cells, Pt.slots] at X246 lq246 yq246 zq246 st246 hQ246
        subst lq246 yq246 zq246
        obtain ⟨rfl, Nq246, eq245⟩ := hQ246
        have N246 := Fr.app N237 Nq246
        refine own_sW T246 (mkF m 140 #[iv p0, iv p1, own_j p2, s_, rv ta, iv mo, iv 4, rv ad218, u_, u_, u_] [.int (nar .char (own_chv tl tn p0 (2 : Int32) p2)), .int 2, .ref ad218]) st246 ?_
        have hb2 := own_c255 tl tn p0 (2 : Int32) p2
        revert hb2
        generalize (nar .char (own_chv tl tn p0 (2 : Int32) p2)) = c2
        intro hb2
        obtain ⟨cl247, Ar247, qa247, S247, M247, H247, U247⟩ := id g242
        obtain ⟨T247, h247, X247, e247, W247, st247⟩ := stC X246 hx hZ eq245 Ar247 (j := (2 : Int32)) (inb_of S247 ⟨by decide, by decide⟩) (g := (mkF m 140 #[iv p0, iv p1, own_j p2, s_, rv ta, iv mo, iv 4, rv ad218, u_, u_, u_] [.int c2, .int 2, .ref ad218])) rfl rfl (hb hby at_140)
        have g248 := g238.wr W247
        have g249 := g239.other W247 (Or.inl ne218_1)
        have g250 := g240.other W247 (Or.inl ne218_1)
        have g251 := g241.other W247 ne218_2
        have g252 : Arv Z h247 ad218 k218 .char (4 : Int32) [(.int (nar .char c0)), (.int (nar .char c1)), (.int (nar .char c2)), (.int (0 : Int32))] (.int (0 : Int32)) := Arv.set Ar247 qa247 S247 M247 H247 U247 (fits_nar_char _) W247 2 rfl (Nat.le_of_ble_eq_true rfl)
        have C253 := C243.trans (CHr.wr W247 sf243_ad218 C243.1)
        have J253 := Nat.le_trans J243 (Nat.le_of_eq W247.size.symm)
        have sf253_ad218 := Safe.wr W247 sf243_ad218 C243.1 sf243_ad218
        have N247 := Fr.snoc X247 N246 o218
        have Z247 : n0 ≤ h247.size := (Nat.le_trans Z237 (Nat.le_of_eq W247.size.symm))
        have O247 : Old Z n0 h247 := O237.wr W247 o218
        refine own_sW T247 (mkF m 141 #[iv p0, iv p1, own_j p2, s_, rv ta, iv mo, iv 4, rv ad218, u_, u_, u_] []) st247 ?_
        refine own_sW T247 (mkF m 143 #[iv p0, iv p1, own_j p2, s_, rv ta, iv mo, iv 4, rv ad218, u_, u_, u_] [.int 4]) (fun t k => XS.iload X247.here hx rfl (hb hby at_141) rfl k) ?_
        refine own_sW T247 (mkF m 144 #[iv p0, iv p1, own_j p2, s_, rv ta, iv mo, iv 4, rv ad218, u_, u_, u_] [.int 3, .int 4]) (fun t k => XS.iconst X247.here hx rfl (hb hby at_143) k) ?_
        refine own_sW T247 (mkF m 147 #[iv p0, iv p1, own_j p2, s_, rv ta, iv mo, iv 4, rv ad218, u_, u_, u_] []) (fun t k => XS.icmpNo X247.here hx rfl (hb hby at_144) rfl (tlt (by decide : ((3 : Int32) < (4 : Int32)))).2.2.2 k) ?_
        refine own_sW T247 (mkF m 149 #[iv p0, iv p1, own_j p2, s_, rv ta, iv mo, iv 4, rv ad218, u_, u_, u_] [.ref ad218]) (fun t k => XS.aload X247.here hx rfl (hb hby at_147) rfl rfl k) ?_
        refine own_sW T247 (mkF m 150 #[iv p0, iv p1, own_j p2, s_, rv ta, iv mo, iv 4, rv ad218, u_, u_, u_] [.int 3, .ref ad218]) (fun t k => XS.iconst X247.here hx rfl (hb hby at_149) k) ?_
        refine own_sW T247 (mkF m 151 #[iv p0, iv p1, own_j p2, s_, rv ta, iv mo, iv 4, rv ad218, u_, u_, u_] [.int 3, .int 3, .ref ad218]) (fun t k => XS.iconst X247.here hx rfl (hb hby at_150) k) ?_
        refine own_sW T247 (mkF m 153 #[iv p0, iv p1, own_j p2, s_, rv ta, iv mo, iv 4, rv ad218, u_, u_, u_] [.ref ta, .int 3, .int 3, .ref ad218]) (fun t k => XS.aload X247.here hx rfl (hb hby at_151) rfl rfl k) ?_
        refine own_sW T247 (mkF m 154 #[iv p0, iv p1, own_j p2, s_, rv ta, iv mo, iv 4, rv ad218, u_, u_, u_] [.int p0, .ref ta, .int 3, .int 3, .ref ad218]) (fun t k => XS.iloadN X247.here hx rfl (hb hby at_153) rfl k) ?_
        refine own_sW T247 (mkF m 155 #[iv p0, iv p1, own_j p2, s_, rv ta, iv mo, iv 4, rv ad218, u_, u_, u_] [.long p2, .int p0, .ref ta, .int 3, .int 3, .ref ad218]) (fun t k => XS.lloadN X247.here hx rfl (hb hby at_154) rfl k) ?_
        obtain ⟨_, _, ⟨T256, L256, k256, n256⟩, -, X256, ⟨Lc256, hQ256, lq256, yq256, zq256⟩, st256⟩ := Jvm.LawKit.callS X247 hx (y := (⟨"com/example/umpire/umpire/xsts/ValidityOfPinLaw", "ch", "(ILjava/lang/String;IJ)C"⟩ : MethodName)) hown (mvT hZ (hW 22 _ rfl)) (mvT hZ (hW 23 _ rfl)) (mvT hZ (hW 24 _ rfl)) (mvT hZ (hW 25 _ rfl)) (by decide) (backOf (W := 2) (rm_ch l Z a0 hw [] ta tb tk tn tl (3 : Int32) p0 p2 fm ic h247 n0 Z247 g248 g249 g250 g251 O247 hfm S_f htf (by decide) S_c hic) hZ (hW 25 _ rfl) (hW 24 _ rfl) (by decide) (by decide)) (g := (mkF m 155 #[iv p0, iv p1, own_j p2, s_, rv ta, iv mo, iv 4, rv ad218, u_, u_, u_] [.long p2, .int p0, .ref ta, .int 3, .int 3, .ref ad218])) rfl (by rw [hml]; rfl) (argsL := [(.int (3 : Int32)), (.ref ta), (.int p0), (.long p2)]) (rest := [(.int (3 : Int32)), (.ref ad218)]) (lenOf pd_20 rfl) rfl (by show 2 * 0 + _ ≤ _; exact Nat.le_of_eq rfl) (hb hby at_155) (fun _ _ => ⟨rfl, e247, (by decide : 3 + 0 ≤ _), (by decide : 36 + 0 ≤ _)⟩)
        dsimp only [Pt.U, Pt.locs, Pt.cells, Pt.slots] at X256 lq256 yq256 zq256 st256 hQ256
        subst lq256 yq256 zq256
        obtain ⟨rfl, Nq256, eq255⟩ := hQ256
        have N256 := Fr.app N247 Nq256
        refine own_sW T256 (mkF m 158 #[iv p0, iv p1, own_j p2, s_, rv ta, iv mo, iv 4, rv ad218, u_, u_, u_] [.int (nar .char (own_chv tl tn p0 (3 : Int32) p2)), .int 3, .ref ad218]) st256 ?_
        have hb3 := own_c255 tl tn p0 (3 : Int32) p2
        revert hb3
        generalize (nar .char (own_chv tl tn p0 (3 : Int32) p2)) = c3
        intro hb3
        obtain ⟨cl257, Ar257, qa257, S257, M257, H257, U257⟩ := id g252
        obtain ⟨T257, h257, X257, e257, W257, st257⟩ := stC X256 hx hZ eq255 Ar257 (j := (3 : Int32)) (inb_of S257 ⟨by decide, by decide⟩) (g := (mkF m 158 #[iv p0, iv p1, own_j p2, s_, rv ta, iv mo, iv 4, rv ad218, u_, u_, u_] [.int c3, .int 3, .ref ad218])) rfl rfl (hb hby at_158)
        have g258 := g248.wr W257
        have g259 := g249.other W257 (Or.inl ne218_1)
        have g260 := g250.other W257 (Or.inl ne218_1)
        have g261 := g251.other W257 ne218_2
        have g262 : Arv Z h257 ad218 k218 .char (4 : Int32) [(.int (nar .char c0)), (.int (nar .char c1)), (.int (nar .char c2)), (.int (nar .char c3))] (.int (0 : Int32)) := Arv.set Ar257 qa257 S257 M257 H257 U257 (fits_nar_char _) W257 3 rfl (Nat.le_of_ble_eq_true rfl)
        have C263 := C253.trans (CHr.wr W257 sf253_ad218 C253.1)
        have J263 := Nat.le_trans J253 (Nat.le_of_eq W257.size.symm)
        have sf263_ad218 := Safe.wr W257 sf253_ad218 C253.1 sf253_ad218
        have N257 := Fr.snoc X257 N256 o218
        have Z257 : n0 ≤ h257.size := (Nat.le_trans Z247 (Nat.le_of_eq W257.size.symm))
        have O257 : Old Z n0 h257 := O247.wr W257 o218
        refine own_sW T257 (mkF m 159 #[iv p0, iv p1, own_j p2, s_, rv ta, iv mo, iv 4, rv ad218, u_, u_, u_] []) st257 ?_
        refine own_sW T257 (mkF m 161 #[iv p0, iv p1, own_j p2, s_, rv ta, iv mo, iv 4, rv ad218, u_, u_, u_] [.int 4]) (fun t k => XS.iload X257.here hx rfl (hb hby at_159) rfl k) ?_
        refine own_sW T257 (mkF m 162 #[iv p0, iv p1, own_j p2, s_, rv ta, iv mo, iv 4, rv ad218, u_, u_, u_] [.int 4, .int 4]) (fun t k => XS.iconst X257.here hx rfl (hb hby at_161) k) ?_
        refine own_sW T257 (mkF m 177 #[iv p0, iv p1, own_j p2, s_, rv ta, iv mo, iv 4, rv ad218, u_, u_, u_] []) (fun t k => XS.icmpYes X257.here hx rfl (pc0 := 162) (pc' := 177) rfl (hb hby at_162) rfl (flt (by decide : ¬ ((4 : Int32) < (4 : Int32)))).2.2.2 (by decide) (by decide) k) ?_
        refine own_sW T257 (mkF m 179 #[iv p0, iv p1, own_j p2, s_, rv ta, iv mo, iv 4, rv ad218, u_, u_, u_] [.int 4]) (fun t k => XS.iload X257.here hx rfl (hb hby at_177) rfl k) ?_
        refine own_sW T257 (mkF m 180 #[iv p0, iv p1, own_j p2, s_, rv ta, iv mo, iv 4, rv ad218, u_, u_, u_] [.int 5, .int 4]) (fun t k => XS.iconst X257.here hx rfl (hb hby at_179) k) ?_
        refine own_sW T257 (mkF m 195 #[iv p0, iv p1, own_j p2, s_, rv ta, iv mo, iv 4, rv ad218, u_, u_, u_] []) (fun t k => XS.icmpYes X257.here hx rfl (pc0 := 180) (pc' := 195) rfl (hb hby at_180) rfl (flt (by decide : ¬ ((5 : Int32) < (4 : Int32)))).2.2.2 (by decide) (by decide) k) ?_
        refine own_sW T257 (mkF m 197 #[iv p0, iv p1, own_j p2, s_, rv ta, iv mo, iv 4, rv ad218, u_, u_, u_] [.int 4]) (fun t k => XS.iload X257.here hx rfl (hb hby at_195) rfl k) ?_
        refine own_sW T257 (mkF m 199 #[iv p0, iv p1, own_j p2, s_, rv ta, iv mo, iv 4, rv ad218, u_, u_, u_] [.int 6, .int 4]) (fun t k => XS.bipush X257.here hx rfl (hb hby at_197) k) ?_
        refine own_sW T257 (mkF m 216 #[iv p0, iv p1, own_j p2, s_, rv ta, iv mo, iv 4, rv ad218, u_, u_, u_] []) (fun t k => XS.icmpYes X257.here hx rfl (pc0 := 199) (pc' := 216) rfl (hb hby at_199) rfl (flt (by decide : ¬ ((6 : Int32) < (4 : Int32)))).2.2.2 (by decide) (by decide) k) ?_
        refine own_sW T257 (mkF m 218 #[iv p0, iv p1, own_j p2, s_, rv ta, iv mo, iv 4, rv ad218, u_, u_, u_] [.int 4]) (fun t k => XS.iload X257.here hx rfl (hb hby at_216) rfl k) ?_
        refine own_sW T257 (mkF m 220 #[iv p0, iv p1, own_j p2, s_, rv ta, iv mo, iv 4, rv ad218, u_, u_, u_] [.int 7, .int 4]) (fun t k => XS.bipush X257.here hx rfl (hb hby at_218) k) ?_
        refine own_sW T257 (mkF m 237 #[iv p0, iv p1, own_j p2, s_, rv ta, iv mo, iv 4, rv ad218, u_, u_, u_] []) (fun t k => XS.icmpYes X257.here hx rfl (pc0 := 220) (pc' := 237) rfl (hb hby at_220) rfl (flt (by decide : ¬ ((7 : Int32) < (4 : Int32)))).2.2.2 (by decide) (by decide) k) ?_
        exact j237 ad218 k218 (4 : Int32) [(.int (nar .char c0)), (.int (nar .char c1)), (.int (nar .char c2)), (.int (nar .char c3))] (4 : Int32) _ _ T257 h257 _ (X257.mono (by decide) (by decide)) hZ hown e257 N257 Z257 SH13 J263 C263 O257 g262 sf263_ad218 o218 (Or.inr (Or.inr (Or.inr (Or.inl ⟨_, _, _, _, rfl, rfl, hb0, hb1, hb2, hb3⟩))))
      · refine own_sW TJ82 (mkF m 84 #[iv p0, iv p1, own_j p2, s_, rv ta, iv mo, iv 5, u_, u_, u_, u_] [.int 5]) (fun t k => XS.iload XJ82.here hx rfl (hb hby at_82) rfl k) ?_
        obtain ⟨T264, h264, k264, X264, e264, E264, A264, st264⟩ := newP XJ82 hx hZ (hW 21 _ rfl) eJ82 (g := (mkF m 84 #[iv p0, iv p1, own_j p2, s_, rv ta, iv mo, iv 5, u_, u_, u_, u_] [.int 5])) rfl (hb hby at_84) rfl (by decide) (cap := 5) (by decide) (by decide) (by decide : 2 + 1 ≤ _) (by decide : 32 + 5 ≤ _)
        obtain ⟨ad264, g_ad264⟩ : ∃ z, z = hH13.size := ⟨_, rfl⟩
        rw [← g_ad264] at A264 st264
        have g265 := f0H13.ext E264
        have g266 := f1H13.ext E264
        have g267 := f2H13.ext E264
        have g268 := f3H13.ext E264
        have ne264_1 : ta ≠ ad264 := Nat.ne_of_lt (by rw [g_ad264]; exact f0H13.lt)
        have ne264_2 : tb ≠ ad264 := Nat.ne_of_lt (by rw [g_ad264]; exact f3H13.lt)
        have o264 : n0 ≤ ad264 := (Nat.le_trans ZH13 (Nat.le_of_eq g_ad264.symm))
        have Z264 : n0 ≤ h264.size := (Nat.le_trans ZH13 E264.1)
        have O264 : Old Z n0 h264 := OH13.ext E264
        have C269 := CH13.trans (CHr.ext E264 CH13.1)
        have J269 := Nat.le_trans JH13 E264.1
        have sf269_ad264 : Safe Z own_EL _ h264 ad264 := Safe.ext E264 CH13.1 (Safe.new (Nat.le_of_eq g_ad264.symm))
        have V264 : Arv Z h264 ad264 k264 .char (5 : Int32) [(.int (0 : Int32)), (.int (0 : Int32)), (.int (0 : Int32)), (.int (0 : Int32)), (.int (0 : Int32))] (.int (0 : Int32)) := (Arv.new A264 (by decide)).pad (pad_rep [] (.int (0 : Int32)) 5)
        refine own_sW T264 (mkF m 86 #[iv p0, iv p1, own_j p2, s_, rv ta, iv mo, iv 5, u_, u_, u_, u_] [.ref ad264]) st264 ?_
        refine own_sW T264 (mkF m 88 #[iv p0, iv p1, own_j p2, s_, rv ta, iv mo, iv 5, rv ad264, u_, u_, u_] []) (fun t k => XS.astore X264.here hx rfl (hb hby at_86) rfl rfl (l' := #[iv p0, iv p1, own_j p2, s_, rv ta, iv mo, iv 5, rv ad264, u_, u_, u_]) rfl k) ?_
        refine own_sW T264 (mkF m 90 #[iv p0, iv p1, own_j p2, s_, rv ta, iv mo, iv 5, rv ad264, u_, u_, u_] [.int 5]) (fun t k => XS.iload X264.here hx rfl (hb hby at_88) rfl k) ?_
        refine own_sW T264 (mkF m 93 #[iv p0, iv p1, own_j p2, s_, rv ta, iv mo, iv 5, rv ad264, u_, u_, u_] []) (fun t k => XS.ifNo X264.here hx rfl (hb hby at_90) rfl ((if0 _ _).trans (tlt (by decide : ((0 : Int32) < (5 : Int32)))).2.2.2) k) ?_
        refine own_sW T264 (mkF m 95 #[iv p0, iv p1, own_j p2, s_, rv ta, iv mo, iv 5, rv ad264, u_, u_, u_] [.ref ad264]) (fun t k => XS.aload X264.here hx rfl (hb hby at_93) rfl rfl k) ?_
        refine own_sW T264 (mkF m 96 #[iv p0, iv p1, own_j p2, s_, rv ta, iv mo, iv 5, rv ad264, u_, u_, u_] [.int 0, .ref ad264]) (fun t k => XS.iconst X264.here hx rfl (hb hby at_95) k) ?_
        refine own_sW T264 (mkF m 97 #[iv p0, iv p1, own_j p2, s_, rv ta, iv mo, iv 5, rv ad264, u_, u_, u_] [.int 0, .int 0, .ref ad264]) (fun t k => XS.iconst X264.here hx rfl (hb hby at_96) k) ?_
        refine own_sW T264 (mkF m 99 #[iv p0, iv p1, own_j p2, s_, rv ta, iv mo, iv 5, rv ad264, u_, u_, u_] [.ref ta, .int 0, .int 0, .ref ad264]) (fun t k => XS.aload X264.here hx rfl (hb hby at_97) rfl rfl k) ?_
        refine own_sW T264 (mkF m 100 #[iv p0, iv p1, own_j p2, s_, rv ta, iv mo, iv 5, rv ad264, u_, u_, u_] [.int p0, .ref ta, .int 0, .int 0, .ref ad264]) (fun t k => XS.iloadN X264.here hx rfl (hb hby at_99) rfl k) ?_
        refine own_sW T264 (mkF m 101 #[iv p0, iv p1, own_j p2, s_, rv ta, iv mo, iv 5, rv ad264, u_, u_, u_] [.long p2, .int p0, .ref ta, .int 0, .int 0, .ref ad264]) (fun t k => XS.lloadN X264.here hx rfl (hb hby at_100) rfl k) ?_
        obtain ⟨_, _, ⟨T272, L272, k272, n272⟩, -, X272, ⟨Lc272, hQ272, lq272, yq272, zq272⟩, st272⟩ := Jvm.LawKit.callS X264 hx (y := (⟨"com/example/umpire/umpire/xsts/ValidityOfPinLaw", "ch", "(ILjava/lang/String;IJ)C"⟩ : MethodName)) hown (mvT hZ (hW 22 _ rfl)) (mvT hZ (hW 23 _ rfl)) (mvT hZ (hW 24 _ rfl)) (mvT hZ (hW 25 _ rfl)) (by decide) (backOf (W := 2) (rm_ch l Z a0 hw [] ta tb tk tn tl (0 : Int32) p0 p2 fm ic h264 n0 Z264 g265 g266 g267 g268 O264 hfm S_f htf (by decide) S_c hic) hZ (hW 25 _ rfl) (hW 24 _ rfl) (by decide) (by decide)) (g := (mkF m 101 #[iv p0, iv p1, own_j p2, s_, rv ta, iv mo, iv 5, rv ad264, u_, u_, u_] [.long p2, .int p0, .ref ta, .int 0, .int 0, .ref ad264])) rfl (by rw [hml]; rfl) (argsL := [(.int (0 : Int32)), (.ref ta), (.int p0), (.long p2)]) (rest := [(.int (0 : Int32)), (.ref ad264)]) (lenOf pd_20 rfl) rfl (by show 2 * 0 + _ ≤ _; exact Nat.le_of_eq rfl) (hb hby at_101) (fun _ _ => ⟨rfl, e264, (by decide : 3 + 0 ≤ _), (by decide : 37 + 0 ≤ _)⟩)
        dsimp only [Pt.U, Pt.locs, Pt.cells, Pt.slots] at X272 lq272 yq272 zq272 st272 hQ272
        subst lq272 yq272 zq272
        obtain ⟨rfl, Nq272, eq271⟩ := hQ272
        have N272 := Fr.app NJ82 Nq272
        refine own_sW T272 (mkF m 104 #[iv p0, iv p1, own_j p2, s_, rv ta, iv mo, iv 5, rv ad264, u_, u_, u_] [.int (nar .char (own_chv tl tn p0 (0 : Int32) p2)), .int 0, .ref ad264]) st272 ?_
        have hb0 := own_c255 tl tn p0 (0 : Int32) p2
        revert hb0
        generalize (nar .char (own_chv tl tn p0 (0 : Int32) p2)) = c0
        intro hb0
        obtain ⟨cl273, Ar273, qa273, S273, M273, H273, U273⟩ := id V264
        obtain ⟨T273, h273, X273, e273, W273, st273⟩ := stC X272 hx hZ eq271 Ar273 (j := (0 : Int32)) (inb_of S273 ⟨by decide, by decide⟩) (g := (mkF m 104 #[iv p0, iv p1, own_j p2, s_, rv ta, iv mo, iv 5, rv ad264, u_, u_, u_] [.int c0, .int 0, .ref ad264])) rfl rfl (hb hby at_104)
        have g274 := g265.wr W273
        have g275 := g266.other W273 (Or.inl ne264_1)
        have g276 := g267.other W273 (Or.inl ne264_1)
        have g277 := g268.other W273 ne264_2
        have g278 : Arv Z h273 ad264 k264 .char (5 : Int32) [(.int (nar .char c0)), (.int (0 : Int32)), (.int (0 : Int32)), (.int (0 : Int32)), (.int (0 : Int32))] (.int (0 : Int32)) := Arv.set Ar273 qa273 S273 M273 H273 U273 (fits_nar_char _) W273 0 rfl (Nat.le_of_ble_eq_true rfl)
        have C279 := C269.trans (CHr.wr W273 sf269_ad264 C269.1)
        have J279 := Nat.le_trans J269 (Nat.le_of_eq W273.size.symm)
        have sf279_ad264 := Safe.wr W273 sf269_ad264 C269.1 sf269_ad264
        have N273 := Fr.snoc X273 N272 o264
        have Z273 : n0 ≤ h273.size := (Nat.le_trans Z264 (Nat.le_of_eq W273.size.symm))
        have O273 : Old Z n0 h273 := O264.wr W273 o264
        refine own_sW T273 (mkF m 105 #[iv p0, iv p1, own_j p2, s_, rv ta, iv mo, iv 5, rv ad264, u_, u_, u_] []) st273 ?_
        refine own_sW T273 (mkF m 107 #[iv p0, iv p1, own_j p2, s_, rv ta, iv mo, iv 5, rv ad264, u_, u_, u_] [.int 5]) (fun t k => XS.iload X273.here hx rfl (hb hby at_105) rfl k) ?_
        refine own_sW T273 (mkF m 108 #[iv p0, iv p1, own_j p2, s_, rv ta, iv mo, iv 5, rv ad264, u_, u_, u_] [.int 1, .int 5]) (fun t k => XS.iconst X273.here hx rfl (hb hby at_107) k) ?_
        refine own_sW T273 (mkF m 111 #[iv p0, iv p1, own_j p2, s_, rv ta, iv mo, iv 5, rv ad264, u_, u_, u_] []) (fun t k => XS.icmpNo X273.here hx rfl (hb hby at_108) rfl (tlt (by decide : ((1 : Int32) < (5 : Int32)))).2.2.2 k) ?_
        refine own_sW T273 (mkF m 113 #[iv p0, iv p1, own_j p2, s_, rv ta, iv mo, iv 5, rv ad264, u_, u_, u_] [.ref ad264]) (fun t k => XS.aload X273.here hx rfl (hb hby at_111) rfl rfl k) ?_
        refine own_sW T273 (mkF m 114 #[iv p0, iv p1, own_j p2, s_, rv ta, iv mo, iv 5, rv ad264, u_, u_, u_] [.int 1, .ref ad264]) (fun t k => XS.iconst X273.here hx rfl (hb hby at_113) k) ?_
        refine own_sW T273 (mkF m 115 #[iv p0, iv p1, own_j p2, s_, rv ta, iv mo, iv 5, rv ad264, u_, u_, u_] [.int 1, .int 1, .ref ad264]) (fun t k => XS.iconst X273.here hx rfl (hb hby at_114) k) ?_
        refine own_sW T273 (mkF m 117 #[iv p0, iv p1, own_j p2, s_, rv ta, iv mo, iv 5, rv ad264, u_, u_, u_] [.ref ta, .int 1, .int 1, .ref ad264]) (fun t k => XS.aload X273.here hx rfl (hb hby at_115) rfl rfl k) ?_
        refine own_sW T273 (mkF m 118 #[iv p0, iv p1, own_j p2, s_, rv ta, iv mo, iv 5, rv ad264, u_, u_, u_] [.int p0, .ref ta, .int 1, .int 1, .ref ad264]) (fun t k => XS.iloadN X273.here hx rfl (hb hby at_117) rfl k) ?_
        refine own_sW T273 (mkF m 119 #[iv p0, iv p1, own_j p2, s_, rv ta, iv mo, iv 5, rv ad264, u_, u_, u_] [.long p2, .int p0, .ref ta, .int 1, .int 1, .ref ad264]) (fun t k => XS.lloadN X273.here hx rfl (hb hby at_118) rfl k) ?_
        obtain ⟨_, _, ⟨T282, L282, k282, n282⟩, -, X282, ⟨Lc282, hQ282, lq282, yq282, zq282⟩, st282⟩ := Jvm.LawKit.callS X273 hx (y := (⟨"com/example/umpire/umpire/xsts/ValidityOfPinLaw", "ch", "(ILjava/lang/String;IJ)C"⟩ : MethodName)) hown (mvT hZ (hW 22 _ rfl)) (mvT hZ (hW 23 _ rfl)) (mvT hZ (hW 24 _ rfl)) (mvT hZ (hW 25 _ rfl)) (by decide) (backOf (W := 2) (rm_ch l Z a0 hw [] ta tb tk tn tl (1 : Int32) p0 p2 fm ic h273 n0 Z273 g274 g275 g276 g277 O273 hfm S_f htf (by decide) S_c hic) hZ (hW 25 _ rfl) (hW 24 _ rfl) (by decide) (by decide)) (g := (mkF m 119 #[iv p0, iv p1, own_j p2, s_, rv ta, iv mo, iv 5, rv ad264, u_, u_, u_] [.long p2, .int p0, .ref ta, .int 1, .int 1, .ref ad264])) rfl (by rw [hml]; rfl) (argsL := [(.int (1 : Int32)), (.ref ta), (.int p0), (.long p2)]) (rest := [(.int (1 : Int32)), (.ref ad264)]) (lenOf pd_20 rfl) rfl (by show 2 * 0 + _ ≤ _; exact Nat.le_of_eq rfl) (hb hby at_119) (fun _ _ => ⟨rfl, e273, (by decide : 3 + 0 ≤ _), (by decide : 37 + 0 ≤ _)⟩)
        dsimp only [Pt.U, Pt.locs, Pt.cells, Pt.slots] at X282 lq282 yq282 zq282 st282 hQ282
        subst lq282 yq282 zq282
        obtain ⟨rfl, Nq282, eq281⟩ := hQ282
        have N282 := Fr.app N273 Nq282
        refine own_sW T282 (mkF m 122 #[iv p0, iv p1, own_j p2, s_, rv ta, iv mo, iv 5, rv ad264, u_, u_, u_] [.int (nar .char (own_chv tl tn p0 (1 : Int32) p2)), .int 1, .ref ad264]) st282 ?_
        have hb1 := own_c255 tl tn p0 (1 : Int32) p2
        revert hb1
        generalize (nar .char (own_chv tl tn p0 (1 : Int32) p2)) = c1
        intro hb1
        obtain ⟨cl283, Ar283, qa283, S283, M283, H283, U283⟩ := id g278
        obtain ⟨T283, h283, X283, e283, W283, st283⟩ := stC X282 hx hZ eq281 Ar283 (j := (1 : Int32)) (inb_of S283 ⟨by decide, by decide⟩) (g := (mkF m 122 #[iv p0, iv p1, own_j p2, s_, rv ta, iv mo, iv 5, rv ad264, u_, u_, u_] [.int c1, .int 1, .ref ad264])) rfl rfl (hb hby at_122)
        have g284 := g274.wr W283
        have g285 := g275.other W283 (Or.inl ne264_1)
        have g286 := g276.other W283 (Or.inl ne264_1)
        have g287 := g277.other W283 ne264_2
        have g288 : Arv Z h283 ad264 k264 .char (5 : Int32) [(.int (nar .char c0)), (.int (nar .char c1)), (.int (0 : Int32)), (.int (0 : Int32)), (.int (0 : Int32))] (.int (0 : Int32)) := Arv.set Ar283 qa283 S283 M283 H283 U283 (fits_nar_char _) W283 1 rfl (Nat.le_of_ble_eq_true rfl)
        have C289 := C279.trans (CHr.wr W283 sf279_ad264 C279.1)
        have J289 := Nat.le_trans J279 (Nat.le_of_eq W283.size.symm)
        have sf289_ad264 := Safe.wr W283 sf279_ad264 C279.1 sf279_ad264
        have N283 := Fr.snoc X283 N282 o264
        have Z283 : n0 ≤ h283.size := (Nat.le_trans Z273 (Nat.le_of_eq W283.size.symm))
        have O283 : Old Z n0 h283 := O273.wr W283 o264
        refine own_sW T283 (mkF m 123 #[iv p0, iv p1, own_j p2, s_, rv ta, iv mo, iv 5, rv ad264, u_, u_, u_] []) st283 ?_
        refine own_sW T283 (mkF m 125 #[iv p0, iv p1, own_j p2, s_, rv ta, iv mo, iv 5, rv ad264, u_, u_, u_] [.int 5]) (fun t k => XS.iload X283.here hx rfl (hb hby at_123) rfl k) ?_
        refine own_sW T283 (mkF m 126 #[iv p0, iv p1, own_j p2, s_, rv ta, iv mo, iv 5, rv ad264, u_, u_, u_] [.int 2, .int 5]) (fun t k => XS.iconst X283.here hx rfl (hb hby at_125) k) ?_
        refine own_sW T283 (mkF m 129 #[iv p0, iv p1, own_j p2, s_, rv ta, iv mo, iv 5, rv ad264, u_, u_, u_] []) (fun t k => XS.icmpNo X283.here hx rfl (hb hby at_126) rfl (tlt (by decide : ((2 : Int32) < (5 : Int32)))).2.2.2 k) ?_
        refine own_sW T283 (mkF m 131 #[iv p0, iv p1, own_j p2, s_, rv ta, iv mo, iv 5, rv ad264, u_, u_, u_] [.ref ad264]) (fun t k => XS.aload X283.here hx rfl (hb hby at_129) rfl rfl k) ?_
        refine own_sW T283 (mkF m 132 #[iv p0, iv p1, own_j p2, s_, rv ta, iv mo, iv 5, rv ad264, u_, u_, u_] [.int 2, .ref ad264]) (fun t k => XS.iconst X283.here hx rfl (hb hby at_131) k) ?_
        refine own_sW T283 (mkF m 133 #[iv p0, iv p1, own_j p2, s_, rv ta, iv mo, iv 5, rv ad264, u_, u_, u_] [.int 2, .int 2, .ref ad264]) (fun t k => XS.iconst X283.here hx rfl (hb hby at_132) k) ?_
        refine own_sW T283 (mkF m 135 #[iv p0, iv p1, own_j p2, s_, rv ta, iv mo, iv 5, rv ad264, u_, u_, u_] [.ref ta, .int 2, .int 2, .ref ad264]) (fun t k => XS.aload X283.here hx rfl (hb hby at_133) rfl rfl k) ?_
        refine own_sW T283 (mkF m 136 #[iv p0, iv p1, own_j p2, s_, rv ta, iv mo, iv 5, rv ad264, u_, u_, u_] [.int p0, .ref ta, .int 2, .int 2, .ref ad264]) (fun t k => XS.iloadN X283.here hx rfl (hb hby at_135) rfl k) ?_
        refine own_sW T283 (mkF m 137 #[iv p0, iv p1, own_j p2, s_, rv ta, iv mo, iv 5, rv ad264, u_, u_, u_] [.long p2, .int p0, .ref ta, .int 2, .int 2, .ref ad264]) (fun t k => XS.lloadN X283.here hx rfl (hb hby at_136) rfl k) ?_
        obtain ⟨_, _, ⟨T292, L292, k292, n292⟩, -, X292, ⟨Lc292, hQ292, lq292, yq292, zq292⟩, st292⟩ := Jvm.LawKit.callS X283 hx (y := (⟨"com/example/umpire/umpire/xsts/ValidityOfPinLaw", "ch", "(ILjava/lang/String;IJ)C"⟩ : MethodName)) hown (mvT hZ (hW 22 _ rfl)) (mvT hZ (hW 23 _ rfl)) (mvT hZ (hW 24 _ rfl)) (mvT hZ (hW 25 _ rfl)) (by decide) (backOf (W := 2) (rm_ch l Z a0 hw [] ta tb tk tn tl (2 : Int32) p0 p2 fm ic h283 n0 Z283 g284 g285 g286 g287 O283 hfm S_f htf (by decide) S_c hic) hZ (hW 25 _ rfl) (hW 24 _ rfl) (by decide) (by decide)) (g := (mkF m 137 #[iv p0, iv p1, own_j p2, s_, rv ta, iv mo, iv 5, rv ad264, u_, u_, u_] [.long p2, .int p0, .ref ta, .int 2, .int 2, .ref ad264])) rfl (by rw [hml]; rfl) (argsL := [(.int (2 : Int32)), (.ref ta), (.int p0), (.long p2)]) (rest := [(.int (2 : Int32)), (.ref ad264)]) (lenOf pd_20 rfl) rfl (by show 2 * 0 + _ ≤ _; exact Nat.le_of_eq rfl) (hb hby at_137) (fun _ _ => ⟨rfl, e283, (by decide : 3 + 0 ≤ _), (by decide : 37 + 0 ≤ _)⟩)
        dsimp only [Pt.U, Pt.locs, Pt.cells, Pt.slots] at X292 lq292 yq292 zq292 st292 hQ292
        subst lq292 yq292 zq292
        obtain ⟨rfl, Nq292, eq291⟩ := hQ292
        have N292 := Fr.app N283 Nq292
        refine own_sW T292 (mkF m 140 #[iv p0, iv p1, own_j p2, s_, rv ta, iv mo, iv 5, rv ad264, u_, u_, u_] [.int (nar .char (own_chv tl tn p0 (2 : Int32) p2)), .int 2, .ref ad264]) st292 ?_
        have hb2 := own_c255 tl tn p0 (2 : Int32) p2
        revert hb2
        generalize (nar .char (own_chv tl tn p0 (2 : Int32) p2)) = c2
        intro hb2
        obtain ⟨cl293, Ar293, qa293, S293, M293, H293, U293⟩ := id g288
        obtain ⟨T293, h293, X293, e293, W293, st293⟩ := stC X292 hx hZ eq291 Ar293 (j := (2 : Int32)) (inb_of S293 ⟨by decide, by decide⟩) (g := (mkF m 140 #[iv p0, iv p1, own_j p2, s_, rv ta, iv mo, iv 5, rv ad264, u_, u_, u_] [.int c2, .int 2, .ref ad264])) rfl rfl (hb hby at_140)
        have g294 := g284.wr W293
        have g295 := g285.other W293 (Or.inl ne264_1)
        have g296 := g286.other W293 (Or.inl ne264_1)
        have g297 := g287.other W293 ne264_2
        have g298 : Arv Z h293 ad264 k264 .char (5 : Int32) [(.int (nar .char c0)), (.int (nar .char c1)), (.int (nar .char c2)), (.int (0 : Int32)), (.int (0 : Int32))] (.int (0 : Int32)) := Arv.set Ar293 qa293 S293 M293 H293 U293 (fits_nar_char _) W293 2 rfl (Nat.le_of_ble_eq_true rfl)
        have C299 := C289.trans (CHr.wr W293 sf289_ad264 C289.1)
        have J299 := Nat.le_trans J289 (Nat.le_of_eq W293.size.symm)
        have sf299_ad264 := Safe.wr W293 sf289_ad264 C289.1 sf289_ad264
        have N293 := Fr.snoc X293 N292 o264
        have Z293 : n0 ≤ h293.size := (Nat.le_trans Z283 (Nat.le_of_eq W293.size.symm))
        have O293 : Old Z n0 h293 := O283.wr W293 o264
        refine own_sW T293 (mkF m 141 #[iv p0, iv p1, own_j p2, s_, rv ta, iv mo, iv 5, rv ad264, u_, u_, u_] []) st293 ?_
        refine own_sW T293 (mkF m 143 #[iv p0, iv p1, own_j p2, s_, rv ta, iv mo, iv 5, rv ad264, u_, u_, u_] [.int 5]) (fun t k => XS.iload X293.here hx rfl (hb hby at_141) rfl k) ?_
        refine own_sW T293 (mkF m 144 #[iv p0, iv p1, own_j p2, s_, rv ta, iv mo, iv 5, rv ad264, u_, u_, u_] [.int 3, .int 5]) (fun t k => XS.iconst X293.here hx rfl (hb hby at_143) k) ?_
        refine own_sW T293 (mkF m 147 #[iv p0, iv p1, own_j p2, s_, rv ta, iv mo, iv 5, rv ad264, u_, u_, u_] []) (fun t k => XS.icmpNo X293.here hx rfl (hb hby at_144) rfl (tlt (by decide : ((3 : Int32) < (5 : Int32)))).2.2.2 k) ?_
        refine own_sW T293 (mkF m 149 #[iv p0, iv p1, own_j p2, s_, rv ta, iv mo, iv 5, rv ad264, u_, u_, u_] [.ref ad264]) (fun t k => XS.aload X293.here hx rfl (hb hby at_147) rfl rfl k) ?_
        refine own_sW T293 (mkF m 150 #[iv p0, iv p1, own_j p2, s_, rv ta, iv mo, iv 5, rv ad264, u_, u_, u_] [.int 3, .ref ad264]) (fun t k => XS.iconst X293.here hx rfl (hb hby at_149) k) ?_
        refine own_sW T293 (mkF m 151 #[iv p0, iv p1, own_j p2, s_, rv ta, iv mo, iv 5, rv ad264, u_, u_, u_] [.int 3, .int 3, .ref ad264]) (fun t k => XS.iconst X293.here hx rfl (hb hby at_150) k) ?_
        refine own_sW T293 (mkF m 153 #[iv p0, iv p1, own_j p2, s_, rv ta, iv mo, iv 5, rv ad264, u_, u_, u_] [.ref ta, .int 3, .int 3, .ref ad264]) (fun t k => XS.aload X293.here hx rfl (hb hby at_151) rfl rfl k) ?_
        refine own_sW T293 (mkF m 154 #[iv p0, iv p1, own_j p2, s_, rv ta, iv mo, iv 5, rv ad264, u_, u_, u_] [.int p0, .ref ta, .int 3, .int 3, .ref ad264]) (fun t k => XS.iloadN X293.here hx rfl (hb hby at_153) rfl k) ?_
        refine own_sW T293 (mkF m 155 #[iv p0, iv p1, own_j p2, s_, rv ta, iv mo, iv 5, rv ad264, u_, u_, u_] [.long p2, .int p0, .ref ta, .int 3, .int 3, .ref ad264]) (fun t k => XS.lloadN X293.here hx rfl (hb hby at_154) rfl k) ?_
        obtain ⟨_, _, ⟨T302, L302, k302, n302⟩, -, X302, ⟨Lc302, hQ302, lq302, yq302, zq302⟩, st302⟩ := Jvm.LawKit.callS X293 hx (y := (⟨"com/example/umpire/umpire/xsts/ValidityOfPinLaw", "ch", "(ILjava/lang/String;IJ)C"⟩ : MethodName)) hown (mvT hZ (hW 22 _ rfl)) (mvT hZ (hW 23 _ rfl)) (mvT hZ (hW 24 _ rfl)) (mvT hZ (hW 25 _ rfl)) (by decide) (backOf (W := 2) (rm_ch l Z a0 hw [] ta tb tk tn tl (3 : Int32) p0 p2 fm ic h293 n0 Z293 g294 g295 g296 g297 O293 hfm S_f htf (by decide) S_c hic) hZ (hW 25 _ rfl) (hW 24 _ rfl) (by decide) (by decide)) (g := (mkF m 155 #[iv p0, iv p1, own_j p2, s_, rv ta, iv mo, iv 5, rv ad264, u_, u_, u_] [.long p2, .int p0, .ref ta, .int 3, .int 3, .ref ad264])) rfl (by rw [hml]; rfl) (argsL := [(.int (3 : Int32)), (.ref ta), (.int p0), (.long p2)]) (rest := [(.int (3 : Int32)), (.ref ad264)]) (lenOf pd_20 rfl) rfl (by show 2 * 0 + _ ≤ _; exact Nat.le_of_eq rfl) (hb hby at_155) (fun _ _ => ⟨rfl, e293, (by decide : 3 + 0 ≤ _), (by decide : 37 + 0 ≤ _)⟩)
        dsimp only [Pt.U, Pt.locs, Pt.cells, Pt.slots] at X302 lq302 yq302 zq302 st302 hQ302
        subst lq302 yq302 zq302
        obtain ⟨rfl, Nq302, eq301⟩ := hQ302
        have N302 := Fr.app N293 Nq302
        refine own_sW T302 (mkF m 158 #[iv p0, iv p1, own_j p2, s_, rv ta, iv mo, iv 5, rv ad264, u_, u_, u_] [.int (nar .char (own_chv tl tn p0 (3 : Int32) p2)), .int 3, .ref ad264]) st302 ?_
        have hb3 := own_c255 tl tn p0 (3 : Int32) p2
        revert hb3
        generalize (nar .char (own_chv tl tn p0 (3 : Int32) p2)) = c3
        intro hb3
        obtain ⟨cl303, Ar303, qa303, S303, M303, H303, U303⟩ := id g298
        obtain ⟨T303, h303, X303, e303, W303, st303⟩ := stC X302 hx hZ eq301 Ar303 (j := (3 : Int32)) (inb_of S303 ⟨by decide, by decide⟩) (g := (mkF m 158 #[iv p0, iv p1, own_j p2, s_, rv ta, iv mo, iv 5, rv ad264, u_, u_, u_] [.int c3, .int 3, .ref ad264])) rfl rfl (hb hby at_158)
        have g304 := g294.wr W303
        have g305 := g295.other W303 (Or.inl ne264_1)
        have g306 := g296.other W303 (Or.inl ne264_1)
        have g307 := g297.other W303 ne264_2
        have g308 : Arv Z h303 ad264 k264 .char (5 : Int32) [(.int (nar .char c0)), (.int (nar .char c1)), (.int (nar .char c2)), (.int (nar .char c3)), (.int (0 : Int32))] (.int (0 : Int32)) := Arv.set Ar303 qa303 S303 M303 H303 U303 (fits_nar_char _) W303 3 rfl (Nat.le_of_ble_eq_true rfl)
        have C309 := C299.trans (CHr.wr W303 sf299_ad264 C299.1)
        have J309 := Nat.le_trans J299 (Nat.le_of_eq W303.size.symm)
        have sf309_ad264 := Safe.wr W303 sf299_ad264 C299.1 sf299_ad264
        have N303 := Fr.snoc X303 N302 o264
        have Z303 : n0 ≤ h303.size := (Nat.le_trans Z293 (Nat.le_of_eq W303.size.symm))
        have O303 : Old Z n0 h303 := O293.wr W303 o264
        refine own_sW T303 (mkF m 159 #[iv p0, iv p1, own_j p2, s_, rv ta, iv mo, iv 5, rv ad264, u_, u_, u_] []) st303 ?_
        refine own_sW T303 (mkF m 161 #[iv p0, iv p1, own_j p2, s_, rv ta, iv mo, iv 5, rv ad264, u_, u_, u_] [.int 5]) (fun t k => XS.iload X303.here hx rfl (hb hby at_159) rfl k) ?_
        refine own_sW T303 (mkF m 162 #[iv p0, iv p1, own_j p2, s_, rv ta, iv mo, iv 5, rv ad264, u_, u_, u_] [.int 4, .int 5]) (fun t k => XS.iconst X303.here hx rfl (hb hby at_161) k) ?_
        refine own_sW T303 (mkF m 165 #[iv p0, iv p1, own_j p2, s_, rv ta, iv mo, iv 5, rv ad264, u_, u_, u_] []) (fun t k => XS.icmpNo X303.here hx rfl (hb hby at_162) rfl (tlt (by decide : ((4 : Int32) < (5 : Int32)))).2.2.2 k) ?_
        refine own_sW T303 (mkF m 167 #[iv p0, iv p1, own_j p2, s_, rv ta, iv mo, iv 5, rv ad264, u_, u_, u_] [.ref ad264]) (fun t k => XS.aload X303.here hx rfl (hb hby at_165) rfl rfl k) ?_
        refine own_sW T303 (mkF m 168 #[iv p0, iv p1, own_j p2, s_, rv ta, iv mo, iv 5, rv ad264, u_, u_, u_] [.int 4, .ref ad264]) (fun t k => XS.iconst X303.here hx rfl (hb hby at_167) k) ?_
        refine own_sW T303 (mkF m 169 #[iv p0, iv p1, own_j p2, s_, rv ta, iv mo, iv 5, rv ad264, u_, u_, u_] [.int 4, .int 4, .ref ad264]) (fun t k => XS.iconst X303.here hx rfl (hb hby at_168) k) ?_
        refine own_sW T303 (mkF m 171 #[iv p0, iv p1, own_j p2, s_, rv ta, iv mo, iv 5, rv ad264, u_, u_, u_] [.ref ta, .int 4, .int 4, .ref ad264]) (fun t k => XS.aload X303.here hx rfl (hb hby at_169) rfl rfl k) ?_
        refine own_sW T303 (mkF m 172 #[iv p0, iv p1, own_j p2, s_, rv ta, iv mo, iv 5, rv ad264, u_, u_, u_] [.int p0, .ref ta, .int 4, .int 4, .ref ad264]) (fun t k => XS.iloadN X303.here hx rfl (hb hby at_171) rfl k) ?_
        refine own_sW T303 (mkF m 173 #[iv p0, iv p1, own_j p2, s_, rv ta, iv mo, iv 5, rv ad264, u_, u_, u_] [.long p2, .int p0, .ref ta, .int 4, .int 4, .ref ad264]) (fun t k => XS.lloadN X303.here hx rfl (hb hby at_172) rfl k) ?_
        obtain ⟨_, _, ⟨T312, L312, k312, n312⟩, -, X312, ⟨Lc312, hQ312, lq312, yq312, zq312⟩, st312⟩ := Jvm.LawKit.callS X303 hx (y := (⟨"com/example/umpire/umpire/xsts/ValidityOfPinLaw", "ch", "(ILjava/lang/String;IJ)C"⟩ : MethodName)) hown (mvT hZ (hW 22 _ rfl)) (mvT hZ (hW 23 _ rfl)) (mvT hZ (hW 24 _ rfl)) (mvT hZ (hW 25 _ rfl)) (by decide) (backOf (W := 2) (rm_ch l Z a0 hw [] ta tb tk tn tl (4 : Int32) p0 p2 fm ic h303 n0 Z303 g304 g305 g306 g307 O303 hfm S_f htf (by decide) S_c hic) hZ (hW 25 _ rfl) (hW 24 _ rfl) (by decide) (by decide)) (g := (mkF m 173 #[iv p0, iv p1, own_j p2, s_, rv ta, iv mo, iv 5, rv ad264, u_, u_, u_] [.long p2, .int p0, .ref ta, .int 4, .int 4, .ref ad264])) rfl (by rw [hml]; rfl) (argsL := [(.int (4 : Int32)), (.ref ta), (.int p0), (.long p2)]) (rest := [(.int (4 : Int32)), (.ref ad264)]) (lenOf pd_20 rfl) rfl (by show 2 * 0 + _ ≤ _; exact Nat.le_of_eq rfl) (hb hby at_173) (fun _ _ => ⟨rfl, e303, (by decide : 3 + 0 ≤ _), (by decide : 37 + 0 ≤ _)⟩)
        dsimp only [Pt.U, Pt.locs, Pt.cells, Pt.slots] at X312 lq312 yq312 zq312 st312 hQ312
        subst lq312 yq312 zq312
        obtain ⟨rfl, Nq312, eq311⟩ := hQ312
        have N312 := Fr.app N303 Nq312
        refine own_sW T312 (mkF m 176 #[iv p0, iv p1, own_j p2, s_, rv ta, iv mo, iv 5, rv ad264, u_, u_, u_] [.int (nar .char (own_chv tl tn p0 (4 : Int32) p2)), .int 4, .ref ad264]) st312 ?_
        have hb4 := own_c255 tl tn p0 (4 : Int32) p2
        revert hb4
        generalize (nar .char (own_chv tl tn p0 (4 : Int32) p2)) = c4
        intro hb4
        obtain ⟨cl313, Ar313, qa313, S313, M313, H313, U313⟩ := id g308
        obtain ⟨T313, h313, X313, e313, W313, st313⟩ := stC X312 hx hZ eq311 Ar313 (j := (4 : Int32)) (inb_of S313 ⟨by decide, by decide⟩) (g := (mkF m 176 #[iv p0, iv p1, own_j p2, s_, rv ta, iv mo, iv 5, rv ad264, u_, u_, u_] [.int c4, .int 4, .ref ad264])) rfl rfl (hb hby at_176)
        have g314 := g304.wr W313
        have g315 := g305.other W313 (Or.inl ne264_1)
        have g316 := g306.other W313 (Or.inl ne264_1)
        have g317 := g307.other W313 ne264_2
        have g318 : Arv Z h313 ad264 k264 .char (5 : Int32) [(.int (nar .char c0)), (.int (nar .char c1)), (.int (nar .char c2)), (.int (nar .char c3)), (.int (nar .char c4))] (.int (0 : Int32)) := Arv.set Ar313 qa313 S313 M313 H313 U313 (fits_nar_char _) W313 4 rfl (Nat.le_of_ble_eq_true rfl)
        have C319 := C309.trans (CHr.wr W313 sf309_ad264 C309.1)
        have J319 := Nat.le_trans J309 (Nat.le_of_eq W313.size.symm)
        have sf319_ad264 := Safe.wr W313 sf309_ad264 C309.1 sf309_ad264
        have N313 := Fr.snoc X313 N312 o264
        have Z313 : n0 ≤ h313.size := (Nat.le_trans Z303 (Nat.le_of_eq W313.size.symm))
        have O313 : Old Z n0 h313 := O303.wr W313 o264
        refine own_sW T313 (mkF m 177 #[iv p0, iv p1, own_j p2, s_, rv ta, iv mo, iv 5, rv ad264, u_, u_, u_] []) st313 ?_
        refine own_sW T313 (mkF m 179 #[iv p0, iv p1, own_j p2, s_, rv ta, iv mo, iv 5, rv ad264, u_, u_, u_] [.int 5]) (fun t k => XS.iload X313.here hx rfl (hb hby at_177) rfl k) ?_
        refine own_sW T313 (mkF m 180 #[iv p0, iv p1, own_j p2, s_, rv ta, iv mo, iv 5, rv ad264, u_, u_, u_] [.int 5, .int 5]) (fun t k => XS.iconst X313.here hx rfl (hb hby at_179) k) ?_
        refine own_sW T313 (mkF m 195 #[iv p0, iv p1, own_j p2, s_, rv ta, iv mo, iv 5, rv ad264, u_, u_, u_] []) (fun t k => XS.icmpYes X313.here hx rfl (pc0 := 180) (pc' := 195) rfl (hb hby at_180) rfl (flt (by decide : ¬ ((5 : Int32) < (5 : Int32)))).2.2.2 (by decide) (by decide) k) ?_
        refine own_sW T313 (mkF m 197 #[iv p0, iv p1, own_j p2, s_, rv ta, iv mo, iv 5, rv ad264, u_, u_, u_] [.int 5]) (fun t k => XS.iload X313.here hx rfl (hb hby at_195) rfl k) ?_
        refine own_sW T313 (mkF m 199 #[iv p0, iv p1, own_j p2, s_, rv ta, iv mo, iv 5, rv ad264, u_, u_, u_] [.int 6, .int 5]) (fun t k => XS.bipush X313.here hx rfl (hb hby at_197) k) ?_
        refine own_sW T313 (mkF m 216 #[iv p0, iv p1, own_j p2, s_, rv ta, iv mo, iv 5, rv ad264, u_, u_, u_] []) (fun t k => XS.icmpYes X313.here hx rfl (pc0 := 199) (pc' := 216) rfl (hb hby at_199) rfl (flt (by decide : ¬ ((6 : Int32) < (5 : Int32)))).2.2.2 (by decide) (by decide) k) ?_
        refine own_sW T313 (mkF m 218 #[iv p0, iv p1, own_j p2, s_, rv ta, iv mo, iv 5, rv ad264, u_, u_, u_] [.int 5]) (fun t k => XS.iload X313.here hx rfl (hb hby at_216) rfl k) ?_
        refine own_sW T313 (mkF m 220 #[iv p0, iv p1, own_j p2, s_, rv ta, iv mo, iv 5, rv ad264, u_, u_, u_] [.int 7, .int 5]) (fun t k => XS.bipush X313.here hx rfl (hb hby at_218) k) ?_
        refine own_sW T313 (mkF m 237 #[iv p0, iv p1, own_j p2, s_, rv ta, iv mo, iv 5, rv ad264, u_, u_, u_] []) (fun t k => XS.icmpYes X313.here hx rfl (pc0 := 220) (pc' := 237) rfl (hb hby at_220) rfl (flt (by decide : ¬ ((7 : Int32) < (5 : Int32)))).2.2.2 (by decide) (by decide) k) ?_
        exact j237 ad264 k264 (5 : Int32) [(.int (nar .char c0)), (.int (nar .char c1)), (.int (nar .char c2)), (.int (nar .char c3)), (.int (nar .char c4))] (5 : Int32) _ _ T313 h313 _ (X313.mono (by decide) (by decide)) hZ hown e313 N313 Z313 SH13 J319 C319 O313 g318 sf319_ad264 o264 (Or.inr (Or.inr (Or.inr (Or.inr (Or.inl ⟨_, _, _, _, _, rfl, rfl, hb0, hb1, hb2, hb3, hb4⟩)))))
      · refine own_sW TJ82 (mkF m 84 #[iv p0, iv p1, own_j p2, s_, rv ta, iv mo, iv 6, u_, u_, u_, u_] [.int 6]) (fun t k => XS.iload XJ82.here hx rfl (hb hby at_82) rfl k) ?_
        obtain ⟨T320, h320, k320, X320, e320, E320, A320, st320⟩ := newP XJ82 hx hZ (hW 21 _ rfl) eJ82 (g := (mkF m 84 #[iv p0, iv p1, own_j p2, s_, rv ta, iv mo, iv 6, u_, u_, u_, u_] [.int 6])) rfl (hb hby at_84) rfl (by decide) (cap := 6) (by decide) (by decide) (by decide : 2 + 1 ≤ _) (by decide : 32 + 6 ≤ _)
        obtain ⟨ad320, g_ad320⟩ : ∃ z, z = hH13.size := ⟨_, rfl⟩
        rw [← g_ad320] at A320 st320
        have g321 := f0H13.ext E320
        have g322 := f1H13.ext E320
        have g323 := f2H13.ext E320
        have g324 := f3H13.ext E320
        have ne320_1 : ta ≠ ad320 := Nat.ne_of_lt (by rw [g_ad320]; exact f0H13.lt)
        have ne320_2 : tb ≠ ad320 := Nat.ne_of_lt (by rw [g_ad320]; exact f3H13.lt)
        have o320 : n0 ≤ ad320 := (Nat.le_trans ZH13 (Nat.le_of_eq g_ad320.symm))
        have Z320 : n0 ≤ h320.size := (Nat.le_trans ZH13 E320.1)
        have O320 : Old Z n0 h320 := OH13.ext E320
        have C325 := CH13.trans (CHr.ext E320 CH13.1)
        have J325 := Nat.le_trans JH13 E320.1
        have sf325_ad320 : Safe Z own_EL _ h320 ad320 := Safe.ext E320 CH13.1 (Safe.new (Nat.le_of_eq g_ad320.symm))
        have V320 : Arv Z h320 ad320 k320 .char (6 : Int32) [(.int (0 : Int32)), (.int (0 : Int32)), (.int (0 : Int32)), (.int (0 : Int32)), (.int (0 : Int32)), (.int (0 : Int32))] (.int (0 : Int32)) := (Arv.new A320 (by decide)).pad (pad_rep [] (.int (0 : Int32)) 6)
        refine own_sW T320 (mkF m 86 #[iv p0, iv p1, own_j p2, s_, rv ta, iv mo, iv 6, u_, u_, u_, u_] [.ref ad320]) st320 ?_
        refine own_sW T320 (mkF m 88 #[iv p0, iv p1, own_j p2, s_, rv ta, iv mo, iv 6, rv ad320, u_, u_, u_] []) (fun t k => XS.astore X320.here hx rfl (hb hby at_86) rfl rfl (l' := #[iv p0, iv p1, own_j p2, s_, rv ta, iv mo, iv 6, rv ad320, u_, u_, u_]) rfl k) ?_
        refine own_sW T320 (mkF m 90 #[iv p0, iv p1, own_j p2, s_, rv ta, iv mo, iv 6, rv ad320, u_, u_, u_] [.int 6]) (fun t k => XS.iload X320.here hx rfl (hb hby at_88) rfl k) ?_
        refine own_sW T320 (mkF m 93 #[iv p0, iv p1, own_j p2, s_, rv ta, iv mo, iv 6, rv ad320, u_, u_, u_] []) (fun t k => XS.ifNo X320.here hx rfl (hb hby at_90) rfl ((if0 _ _).trans (tlt (by decide : ((0 : Int32) < (6 : Int32)))).2.2.2) k) ?_
        refine own_sW T320 (mkF m 95 #[iv p0, iv p1, own_j p2, s_, rv ta, iv mo, iv 6, rv ad320, u_, u_, u_] [.ref ad320]) (fun t k => XS.aload X320.here hx rfl (hb hby at_93) rfl rfl k) ?_
        refine own_sW T320 (mkF m 96 #[iv p0, iv p1, own_j p2, s_, rv ta, iv mo, iv 6, rv ad320, u_, u_, u_] [.int 0, .ref ad320]) (fun t k => XS.iconst X320.here hx rfl (hb hby at_95) k) ?_
        refine own_sW T320 (mkF m 97 #[iv p0, iv p1, own_j p2, s_, rv ta, iv mo, iv 6, rv ad320, u_, u_, u_] [.int 0, .int 0, .ref ad320]) (fun t k => XS.iconst X320.here hx rfl (hb hby at_96) k) ?_
        refine own_sW T320 (mkF m 99 #[iv p0, iv p1, own_j p2, s_, rv ta, iv mo, iv 6, rv ad320, u_, u_, u_] [.ref ta, .int 0, .int 0, .ref ad320]) (fun t k => XS.aload X320.here hx rfl (hb hby at_97) rfl rfl k) ?_
        refine own_sW T320 (mkF m 100 #[iv p0, iv p1, own_j p2, s_, rv ta, iv mo, iv 6, rv ad320, u_, u_, u_] [.int p0, .ref ta, .int 0, .int 0, .ref ad320]) (fun t k => XS.iloadN X320.here hx rfl (hb hby at_99) rfl k) ?_
        refine own_sW T320 (mkF m 101 #[iv p0, iv p1, own_j p2, s_, rv ta, iv mo, iv 6, rv ad320, u_, u_, u_] [.long p2, .int p0, .ref ta, .int 0, .int 0, .ref ad320]) (fun t k => XS.lloadN X320.here hx rfl (hb hby at_100) rfl k) ?_
        obtain ⟨_, _, ⟨T328, L328, k328, n328⟩, -, X328, ⟨Lc328, hQ328, lq328, yq328, zq328⟩, st328⟩ := Jvm.LawKit.callS X320 hx (y := (⟨"com/example/umpire/umpire/xsts/ValidityOfPinLaw", "ch", "(ILjava/lang/String;IJ)C"⟩ : MethodName)) hown (mvT hZ (hW 22 _ rfl)) (mvT hZ (hW 23 _ rfl)) (mvT hZ (hW 24 _ rfl)) (mvT hZ (hW 25 _ rfl)) (by decide) (backOf (W := 2) (rm_ch l Z a0 hw [] ta tb tk tn tl (0 : Int32) p0 p2 fm ic h320 n0 Z320 g321 g322 g323 g324 O320 hfm S_f htf (by decide) S_c hic) hZ (hW 25 _ rfl) (hW 24 _ rfl) (by decide) (by decide)) (g := (mkF m 101 #[iv p0, iv p1, own_j p2, s_, rv ta, iv mo, iv 6, rv ad320, u_, u_, u_] [.long p2, .int p0, .ref ta, .int 0, .int 0, .ref ad320])) rfl (by rw [hml]; rfl) (argsL := [(.int (0 : Int32)), (.ref ta), (.int p0), (.long p2)]) (rest := [(.int (0 : Int32)), (.ref ad320)]) (lenOf pd_20 rfl) rfl (by show 2 * 0 + _ ≤ _; exact Nat.le_of_eq rfl) (hb hby at_101) (fun _ _ => ⟨rfl, e320, (by decide : 3 + 0 ≤ _), (by decide : 38 + 0 ≤ _)⟩)
        dsimp only [Pt.U, Pt.locs, Pt.cells, Pt.slots] at X328 lq328 yq328 zq328 st328 hQ328
        subst lq328 yq328 zq328
        obtain ⟨rfl, Nq328, eq327⟩ := hQ328
        have N328 := Fr.app NJ82 Nq328
        refine own_sW T328 (mkF m 104 #[iv p0, iv p1, own_j p2, s_, rv ta, iv mo, iv 6, rv ad320, u_, u_, u_] [.int (nar .char (own_chv tl tn p0 (0 : Int32) p2)), .int 0, .ref ad320]) st328 ?_
        have hb0 := own_c255 tl tn p0 (0 : Int32) p2
        revert hb0
        generalize (nar .char (own_chv tl tn p0 (0 : Int32) p2)) = c0
        intro hb0
        obtain ⟨cl329, Ar329, qa329, S329, M329, H329, U329⟩ := id V320
        obtain ⟨T329, h329, X329, e329, W329, st329⟩ := stC X328 hx hZ eq327 Ar329 (j := (0 : Int32)) (inb_of S329 ⟨by decide, by decide⟩) (g := (mkF m 104 #[iv p0, iv p1, own_j p2, s_, rv ta, iv mo, iv 6, rv ad320, u_, u_, u_] [.int c0, .int 0, .ref ad320])) rfl rfl (hb hby at_104)
        have g330 := g321.wr W329
        have g331 := g322.other W329 (Or.inl ne320_1)
        have g332 := g323.other W329 (Or.inl ne320_1)
        have g333 := g324.other W329 ne320_2
        have g334 : Arv Z h329 ad320 k320 .char (6 : Int32) [(.int (nar .char c0)), (.int (0 : Int32)), (.int (0 : Int32)), (.int (0 : Int32)), (.int (0 : Int32)), (.int (0 : Int32))] (.int (0 : Int32)) := Arv.set Ar329 qa329 S329 M329 H329 U329 (fits_nar_char _) W329 0 rfl (Nat.le_of_ble_eq_true rfl)
        have C335 := C325.trans (CHr.wr W329 sf325_ad320 C325.1)
        have J335 := Nat.le_trans J325 (Nat.le_of_eq W329.size.symm)
        have sf335_ad320 := Safe.wr W329 sf325_ad320 C325.1 sf325_ad320
        have N329 := Fr.snoc X329 N328 o320
        have Z329 : n0 ≤ h329.size := (Nat.le_trans Z320 (Nat.le_of_eq W329.size.symm))
        have O329 : Old Z n0 h329 := O320.wr W329 o320
        refine own_sW T329 (mkF m 105 #[iv p0, iv p1, own_j p2, s_, rv ta, iv mo, iv 6, rv ad320, u_, u_, u_] []) st329 ?_
        refine own_sW T329 (mkF m 107 #[iv p0, iv p1, own_j p2, s_, rv ta, iv mo, iv 6, rv ad320, u_, u_, u_] [.int 6]) (fun t k => XS.iload X329.here hx rfl (hb hby at_105) rfl k) ?_
        refine own_sW T329 (mkF m 108 #[iv p0, iv p1, own_j p2, s_, rv ta, iv mo, iv 6, rv ad320, u_, u_, u_] [.int 1, .int 6]) (fun t k => XS.iconst X329.here hx rfl (hb hby at_107) k) ?_
        refine own_sW T329 (mkF m 111 #[iv p0, iv p1, own_j p2, s_, rv ta, iv mo, iv 6, rv ad320, u_, u_, u_] []) (fun t k => XS.icmpNo X329.here hx rfl (hb hby at_108) rfl (tlt (by decide : ((1 : Int32) < (6 : Int32)))).2.2.2 k) ?_
        refine own_sW T329 (mkF m 113 #[iv p0, iv p1, own_j p2, s_, rv ta, iv mo, iv 6, rv ad320, u_, u_, u_] [.ref ad320]) (fun t k => XS.aload X329.here hx rfl (hb hby at_111) rfl rfl k) ?_
        refine own_sW T329 (mkF m 114 #[iv p0, iv p1, own_j p2, s_, rv ta, iv mo, iv 6, rv ad320, u_, u_, u_] [.int 1, .ref ad320]) (fun t k => XS.iconst X329.here hx rfl (hb hby at_113) k) ?_
        refine own_sW T329 (mkF m 115 #[iv p0, iv p1, own_j p2, s_, rv ta, iv mo, iv 6, rv ad320, u_, u_, u_] [.int 1, .int 1, .ref ad320]) (fun t k => XS.iconst X329.here hx rfl (hb hby at_114) k) ?_
        refine own_sW T329 (mkF m 117 #[iv p0, iv p1, own_j p2, s_, rv ta, iv mo, iv 6, rv ad320, u_, u_, u_] [.ref ta, .int 1, .int 1, .ref ad320]) (fun t k => XS.aload X329.here hx rfl (hb hby at_115) rfl rfl k) ?_
        refine own_sW T329 (mkF m 118 #[iv p0, iv p1, own_j p2, s_, rv ta, iv mo, iv 6, rv ad320, u_, u_, u_] [.int p0, .ref ta, .int 1, .int 1, .ref ad320]) (fun t k => XS.iloadN X329.here hx rfl (hb hby at_117) rfl k) ?_
        refine own_sW T329 (mkF m 119 #[iv p0, iv p1, own_j p2, s_, rv ta, iv mo, iv 6, rv ad320, u_, u_, u_] [.long p2, .int p0, .ref ta, .int 1, .int 1, .ref ad320]) (fun t k => XS.lloadN X329.here hx rfl (hb hby at_118) rfl k) ?_
        obtain ⟨_, _, ⟨T338, L338, k338, n338⟩, -, X338, ⟨Lc338, hQ338, lq338, yq338, zq338⟩, st338⟩ := Jvm.LawKit.callS X329 hx (y := (⟨"com/example/umpire/umpire/xsts/ValidityOfPinLaw", "ch", "(ILjava/lang/String;IJ)C"⟩ : MethodName)) hown (mvT hZ (hW 22 _ rfl)) (mvT hZ (hW 23 _ rfl)) (mvT hZ (hW 24 _ rfl)) (mvT hZ (hW 25 _ rfl)) (by decide) (backOf (W := 2) (rm_ch l Z a0 hw [] ta tb tk tn tl (1 : Int32) p0 p2 fm ic h329 n0 Z329 g330 g331 g332 g333 O329 hfm S_f htf (by decide) S_c hic) hZ (hW 25 _ rfl) (hW 24 _ rfl) (by decide) (by decide)) (g := (mkF m 119 #[iv p0, iv p1, own_j p2, s_, rv ta, iv mo, iv 6, rv ad320, u_, u_, u_] [.long p2, .int p0, .ref ta, .int 1, .int 1, .ref ad320])) rfl (by rw [hml]; rfl) (argsL := [(.int (1 : Int32)), (.ref ta), (.int p0), (.long p2)]) (rest := [(.int (1 : Int32)), (.ref ad320)]) (lenOf pd_20 rfl) rfl (by show 2 * 0 + _ ≤ _; exact Nat.le_of_eq rfl) (hb hby at_119) (fun _ _ => ⟨rfl, e329, (by decide : 3 + 0 ≤ _), (by decide : 38 + 0 ≤ _)⟩)
        dsimp only [Pt.U, Pt.locs, Pt.cells, Pt.slots] at X338 lq338 yq338 zq338 st338 hQ338
        subst lq338 yq338 zq338
        obtain ⟨rfl, Nq338, eq337⟩ := hQ338
        have N338 := Fr.app N329 Nq338
        refine own_sW T338 (mkF m 122 #[iv p0, iv p1, own_j p2, s_, rv ta, iv mo, iv 6, rv ad320, u_, u_, u_] [.int (nar .char (own_chv tl tn p0 (1 : Int32) p2)), .int 1, .ref ad320]) st338 ?_
        have hb1 := own_c255 tl tn p0 (1 : Int32) p2
        revert hb1
        generalize (nar .char (own_chv tl tn p0 (1 : Int32) p2)) = c1
        intro hb1
        obtain ⟨cl339, Ar339, qa339, S339, M339, H339, U339⟩ := id g334
        obtain ⟨T339, h339, X339, e339, W339, st339⟩ := stC X338 hx hZ eq337 Ar339 (j := (1 : Int32)) (inb_of S339 ⟨by decide, by decide⟩) (g := (mkF m 122 #[iv p0, iv p1, own_j p2, s_, rv ta, iv mo, iv 6, rv ad320, u_, u_, u_] [.int c1, .int 1, .ref ad320])) rfl rfl (hb hby at_122)
        have g340 := g330.wr W339
        have g341 := g331.other W339 (Or.inl ne320_1)
        have g342 := g332.other W339 (Or.inl ne320_1)
        have g343 := g333.other W339 ne320_2
        have g344 : Arv Z h339 ad320 k320 .char (6 : Int32) [(.int (nar .char c0)), (.int (nar .char c1)), (.int (0 : Int32)), (.int (0 : Int32)), (.int (0 : Int32)), (.int (0 : Int32))] (.int (0 : Int32)) := Arv.set Ar339 qa339 S339 M339 H339 U339 (fits_nar_char _) W339 1 rfl (Nat.le_of_ble_eq_true rfl)
        have C345 := C335.trans (CHr.wr W339 sf335_ad320 C335.1)
        have J345 := Nat.le_trans J335 (Nat.le_of_eq W339.size.symm)
        have sf345_ad320 := Safe.wr W339 sf335_ad320 C335.1 sf335_ad320
        have N339 := Fr.snoc X339 N338 o320
        have Z339 : n0 ≤ h339.size := (Nat.le_trans Z329 (Nat.le_of_eq W339.size.symm))
        have O339 : Old Z n0 h339 := O329.wr W339 o320
        refine own_sW T339 (mkF m 123 #[iv p0, iv p1, own_j p2, s_, rv ta, iv mo, iv 6, rv ad320, u_, u_, u_] []) st339 ?_
        refine own_sW T339 (mkF m 125 #[iv p0, iv p1, own_j p2, s_, rv ta, iv mo, iv 6, rv ad320, u_, u_, u_] [.int 6]) (fun t k => XS.iload X339.here hx rfl (hb hby at_123) rfl k) ?_
        refine own_sW T339 (mkF m 126 #[iv p0, iv p1, own_j p2, s_, rv ta, iv mo, iv 6, rv ad320, u_, u_, u_] [.int 2, .int 6]) (fun t k => XS.iconst X339.here hx rfl (hb hby at_125) k) ?_
        refine own_sW T339 (mkF m 129 #[iv p0, iv p1, own_j p2, s_, rv ta, iv mo, iv 6, rv ad320, u_, u_, u_] []) (fun t k => XS.icmpNo X339.here hx rfl (hb hby at_126) rfl (tlt (by decide : ((2 : Int32) < (6 : Int32)))).2.2.2 k) ?_
        refine own_sW T339 (mkF m 131 #[iv p0, iv p1, own_j p2, s_, rv ta, iv mo, iv 6, rv ad320, u_, u_, u_] [.ref ad320]) (fun t k => XS.aload X339.here hx rfl (hb hby at_129) rfl rfl k) ?_
        refine own_sW T339 (mkF m 132 #[iv p0, iv p1, own_j p2, s_, rv ta, iv mo, iv 6, rv ad320, u_, u_, u_] [.int 2, .ref ad320]) (fun t k => XS.iconst X339.here hx rfl (hb hby at_131) k) ?_
        refine own_sW T339 (mkF m 133 #[iv p0, iv p1, own_j p2, s_, rv ta, iv mo, iv 6, rv ad320, u_, u_, u_] [.int 2, .int 2, .ref ad320]) (fun t k => XS.iconst X339.here hx rfl (hb hby at_132) k) ?_
        refine own_sW T339 (mkF m 135 #[iv p0, iv p1, own_j p2, s_, rv ta, iv mo, iv 6, rv ad320, u_, u_, u_] [.ref ta, .int 2, .int 2, .ref ad320]) (fun t k => XS.aload X339.here hx rfl (hb hby at_133) rfl rfl k) ?_
        refine own_sW T339 (mkF m 136 #[iv p0, iv p1, own_j p2, s_, rv ta, iv mo, iv 6, rv ad320, u_, u_, u_] [.int p0, .ref ta, .int 2, .int 2, .ref ad320]) (fun t k => XS.iloadN X339.here hx rfl (hb hby at_135) rfl k) ?_
        refine own_sW T339 (mkF m 137 #[iv p0, iv p1, own_j p2, s_, rv ta, iv mo, iv 6, rv ad320, u_, u_, u_] [.long p2, .int p0, .ref ta, .int 2, .int 2, .ref ad320]) (fun t k => XS.lloadN X339.here hx rfl (hb hby at_136) rfl k) ?_
        obtain ⟨_, _, ⟨T348, L348, k348, n348⟩, -, X348, ⟨Lc348, hQ348, lq348, yq348, zq348⟩, st348⟩ := Jvm.LawKit.callS X339 hx (y := (⟨"com/example/umpire/umpire/xsts/ValidityOfPinLaw", "ch", "(ILjava/lang/String;IJ)C"⟩ : MethodName)) hown (mvT hZ (hW 22 _ rfl)) (mvT hZ (hW 23 _ rfl)) (mvT hZ (hW 24 _ rfl)) (mvT hZ (hW 25 _ rfl)) (by decide) (backOf (W := 2) (rm_ch l Z a0 hw [] ta tb tk tn tl (2 : Int32) p0 p2 fm ic h339 n0 Z339 g340 g341 g342 g343 O339 hfm S_f htf (by decide) S_c hic) hZ (hW 25 _ rfl) (hW 24 _ rfl) (by decide) (by decide)) (g := (mkF m 137 #[iv p0, iv p1, own_j p2, s_, rv ta, iv mo, iv 6, rv ad320, u_, u_, u_] [.long p2, .int p0, .ref ta, .int 2, .int 2, .ref ad320])) rfl (by rw [hml]; rfl) (argsL := [(.int (2 : Int32)), (.ref ta), (.int p0), (.long p2)]) (rest := [(.int (2 : Int32)), (.ref ad320)]) (lenOf pd_20 rfl) rfl (by show 2 * 0 + _ ≤ _; exact Nat.le_of_eq rfl) (hb hby at_137) (fun _ _ => ⟨rfl, e339, (by decide : 3 + 0 ≤ _), (by decide : 38 + 0 ≤ _)⟩)
        dsimp only [Pt.U, Pt.locs, Pt.cells, Pt.slots] at X348 lq348 yq348 zq348 st348 hQ348
        subst lq348 yq348 zq348
        obtain ⟨rfl, Nq348, eq347⟩ := hQ348
        have N348 := Fr.app N339 Nq348
        refine own_sW T348 (mkF m 140 #[iv p0, iv p1, own_j p2, s_, rv ta, iv mo, iv 6, rv ad320, u_, u_, u_] [.int (nar .char (own_chv tl tn p0 (2 : Int32) p2)), .int 2, .ref ad320]) st348 ?_
        have hb2 := own_c255 tl tn p0 (2 : Int32) p2
        revert hb2
        generalize (nar .char (own_chv tl tn p0 (2 : Int32) p2)) = c2
        intro hb2
        obtain ⟨cl349, Ar349, qa349, S349, M349, H349, U349⟩ := id g344
        obtain ⟨T349, h349, X349, e349, W349, st349⟩ := stC X348 hx hZ eq347 Ar349 (j := (2 : Int32)) (inb_of S349 ⟨by decide, by decide⟩) (g := (mkF m 140 #[iv p0, iv p1, own_j p2, s_, rv ta, iv mo, iv 6, rv ad320, u_, u_, u_] [.int c2, .int 2, .ref ad320])) rfl rfl (hb hby at_140)
        have g350 := g340.wr W349
        have g351 := g341.other W349 (Or.inl ne320_1)
        have g352 := g342.other W349 (Or.inl ne320_1)
        have g353 := g343.other W349 ne320_2
        have g354 : Arv Z h349 ad320 k320 .char (6 : Int32) [(.int (nar .char c0)), (.int (nar .char c1)), (.int (nar .char c2)), (.int (0 : Int32)), (.int (0 : Int32)), (.int (0 : Int32))] (.int (0 : Int32)) := Arv.set Ar349 qa349 S349 M349 H349 U349 (fits_nar_char _) W349 2 rfl (Nat.le_of_ble_eq_true rfl)
        have C355 := C345.trans (CHr.wr W349 sf345_ad320 C345.1)
        have J355 := Nat.le_trans J345 (Nat.le_of_eq W349.size.symm)
        have sf355_ad320 := Safe.wr W349 sf345_ad320 C345.1 sf345_ad320
        have N349 := Fr.snoc X349 N348 o320
        have Z349 : n0 ≤ h349.size := (Nat.le_trans Z339 (Nat.le_of_eq W349.size.symm))
        have O349 : Old Z n0 h349 := O339.wr W349 o320
        refine own_sW T349 (mkF m 141 #[iv p0, iv p1, own_j p2, s_, rv ta, iv mo, iv 6, rv ad320, u_, u_, u_] []) st349 ?_
        refine own_sW T349 (mkF m 143 #[iv p0, iv p1, own_j p2, s_, rv ta, iv mo, iv 6, rv ad320, u_, u_, u_] [.int 6]) (fun t k => XS.iload X349.here hx rfl (hb hby at_141) rfl k) ?_
        refine own_sW T349 (mkF m 144 #[iv p0, iv p1, own_j p2, s_, rv ta, iv mo, iv 6, rv ad320, u_, u_, u_] [.int 3, .int 6]) (fun t k => XS.iconst X349.here hx rfl (hb hby at_143) k) ?_
        refine own_sW T349 (mkF m 147 #[iv p0, iv p1, own_j p2, s_, rv ta, iv mo, iv 6, rv ad320, u_, u_, u_] []) (fun t k => XS.icmpNo X349.here hx rfl (hb hby at_144) rfl (tlt (by decide : ((3 : Int32) < (6 : Int32)))).2.2.2 k) ?_
        refine own_sW T349 (mkF m 149 #[iv p0, iv p1, own_j p2, s_, rv ta, iv mo, iv 6, rv ad320, u_, u_, u_] [.ref ad320]) (fun t k => XS.aload X349.here hx rfl (hb hby at_147) rfl rfl k) ?_
        refine own_sW T349 (mkF m 150 #[iv p0, iv p1, own_j p2, s_, rv ta, iv mo, iv 6, rv ad320, u_, u_, u_] [.int 3, .ref ad320]) (fun t k => XS.iconst X349.here hx rfl (hb hby at_149) k) ?_
        refine own_sW T349 (mkF m 151 #[iv p0, iv p1, own_j p2, s_, rv ta, iv mo, iv 6, rv ad320, u_, u_, u_] [.int 3, .int 3, .ref ad320]) (fun t k => XS.iconst X349.here hx rfl (hb hby at_150) k) ?_
        refine own_sW T349 (mkF m 153 #[iv p0, iv p1, own_j p2, s_, rv ta, iv mo, iv 6, rv ad320, u_, u_, u_] [.ref ta, .int 3, .int 3, .ref ad320]) (fun t k => XS.aload X349.here hx rfl (hb hby at_151) rfl rfl k) ?_
        refine own_sW T349 (mkF m 154 #[iv p0, iv p1, own_j p2, s_, rv ta, iv mo, iv 6, rv ad320, u_, u_, u_] [.int p0, .ref ta, .int 3, .int 3, .ref ad320]) (fun t k => XS.iloadN X349.here hx rfl (hb hby at_153) rfl k) ?_
        refine own_sW T349 (mkF m 155 #[iv p0, iv p1, own_j p2, s_, rv ta, iv mo, iv 6, rv ad320, u_, u_, u_] [.long p2, .int p0, .ref ta, .int 3, .int 3, .ref ad320]) (fun t k => XS.lloadN X349.here hx rfl (hb hby at_154) rfl k) ?_
        obtain ⟨_, _, ⟨T358, L358, k358, n358⟩, -, X358, ⟨Lc358, hQ358, lq358, yq358, zq358⟩, st358⟩ := Jvm.LawKit.callS X349 hx (y := (⟨"com/example/umpire/umpire/xsts/ValidityOfPinLaw", "ch", "(ILjava/lang/String;IJ)C"⟩ : MethodName)) hown (mvT hZ (hW 22 _ rfl)) (mvT hZ (hW 23 _ rfl)) (mvT hZ (hW 24 _ rfl)) (mvT hZ (hW 25 _ rfl)) (by decide) (backOf (W := 2) (rm_ch l Z a0 hw [] ta tb tk tn tl (3 : Int32) p0 p2 fm ic h349 n0 Z349 g350 g351 g352 g353 O349 hfm S_f htf (by decide) S_c hic) hZ (hW 25 _ rfl) (hW 24 _ rfl) (by decide) (by decide)) (g := (mkF m 155 #[iv p0, iv p1, own_j p2, s_, rv ta, iv mo, iv 6, rv ad320, u_, u_, u_] [.long p2, .int p0, .ref ta, .int 3, .int 3, .ref ad320])) rfl (by rw [hml]; rfl) (argsL := [(.int (3 : Int32)), (.ref ta), (.int p0), (.long p2)]) (rest := [(.int (3 : Int32)), (.ref ad320)]) (lenOf pd_20 rfl) rfl (by show 2 * 0 + _ ≤ _; exact Nat.le_of_eq rfl) (hb hby at_155) (fun _ _ => ⟨rfl, e349, (by decide : 3 + 0 ≤ _), (by decide : 38 + 0 ≤ _)⟩)
        dsimp only [Pt.U, Pt.locs, Pt.cells, Pt.slots] at X358 lq358 yq358 zq358 st358 hQ358
        subst lq358 yq358 zq358
        obtain ⟨rfl, Nq358, eq357⟩ := hQ358
        have N358 := Fr.app N349 Nq358
        refine own_sW T358 (mkF m 158 #[iv p0, iv p1, own_j p2, s_, rv ta, iv mo, iv 6, rv ad320, u_, u_, u_] [.int (nar .char (own_chv tl tn p0 (3 : Int32) p2)), .int 3, .ref ad320]) st358 ?_
        have hb3 := own_c255 tl tn p0 (3 : Int32) p2
        revert hb3
        generalize (nar .char (own_chv tl tn p0 (3 : Int32) p2)) = c3
        intro hb3
        obtain ⟨cl359, Ar359, qa359, S359, M359, H359, U359⟩ := id g354
        obtain ⟨T359, h359, X359, e359, W359, st359⟩ := stC X358 hx hZ eq357 Ar359 (j := (3 : Int32)) (inb_of S359 ⟨by decide, by decide⟩) (g := (mkF m 158 #[iv p0, iv p1, own_j p2, s_, rv ta, iv mo, iv 6, rv ad320, u_, u_, u_] [.int c3, .int 3, .ref ad320])) rfl rfl (hb hby at_158)
        have g360 := g350.wr W359
        have g361 := g351.other W359 (Or.inl ne320_1)
        have g362 := g352.other W359 (Or.inl ne320_1)
        have g363 := g353.other W359 ne320_2
        have g364 : Arv Z h359 ad320 k320 .char (6 : Int32) [(.int (nar .char c0)), (.int (nar .char c1)), (.int (nar .char c2)), (.int (nar .char c3)), (.int (0 : Int32)), (.int (0 : Int32))] (.int (0 : Int32)) := Arv.set Ar359 qa359 S359 M359 H359 U359 (fits_nar_char _) W359 3 rfl (Nat.le_of_ble_eq_true rfl)
        have C365 := C355.trans (CHr.wr W359 sf355_ad320 C355.1)
        have J365 := Nat.le_trans J355 (Nat.le_of_eq W359.size.symm)
        have sf365_ad320 := Safe.wr W359 sf355_ad320 C355.1 sf355_ad320
        have N359 := Fr.snoc X359 N358 o320
        have Z359 : n0 ≤ h359.size := (Nat.le_trans Z349 (Nat.le_of_eq W359.size.symm))
        have O359 : Old Z n0 h359 := O349.wr W359 o320
        refine own_sW T359 (mkF m 159 #[iv p0, iv p1, own_j p2, s_, rv ta, iv mo, iv 6, rv ad320, u_, u_, u_] []) st359 ?_
        refine own_sW T359 (mkF m 161 #[iv p0, iv p1, own_j p2, s_, rv ta, iv mo, iv 6, rv ad320, u_, u_, u_] [.int 6]) (fun t k => XS.iload X359.here hx rfl (hb hby at_159) rfl k) ?_
        refine own_sW T359 (mkF m 162 #[iv p0, iv p1, own_j p2, s_, rv ta, iv mo, iv 6, rv ad320, u_, u_, u_] [.int 4, .int 6]) (fun t k => XS.iconst X359.here hx rfl (hb hby at_161) k) ?_
        refine own_sW T359 (mkF m 165 #[iv p0, iv p1, own_j p2, s_, rv ta, iv mo, iv 6, rv ad320, u_, u_, u_] []) (fun t k => XS.icmpNo X359.here hx rfl (hb hby at_162) rfl (tlt (by decide : ((4 : Int32) < (6 : Int32)))).2.2.2 k) ?_
        refine own_sW T359 (mkF m 167 #[iv p0, iv p1, own_j p2, s_, rv ta, iv mo, iv 6, rv ad320, u_, u_, u_] [.ref ad320]) (fun t k => XS.aload X359.here hx rfl (hb hby at_165) rfl rfl k) ?_
        refine own_sW T359 (mkF m 168 #[iv p0, iv p1, own_j p2, s_, rv ta, iv mo, iv 6, rv ad320, u_, u_, u_] [.int 4, .ref ad320]) (fun t k => XS.iconst X359.here hx rfl (hb hby at_167) k) ?_
        refine own_sW T359 (mkF m 169 #[iv p0, iv p1, own_j p2, s_, rv ta, iv mo, iv 6, rv ad320, u_, u_, u_] [.int 4, .int 4, .ref ad320]) (fun t k => XS.iconst X359.here hx rfl (hb hby at_168) k) ?_
        refine own_sW T359 (mkF m 171 #[iv p0, iv p1, own_j p2, s_, rv ta, iv mo, iv 6, rv ad320, u_, u_, u_] [.ref ta, .int 4, .int 4, .ref ad320]) (fun t k => XS.aload X359.here hx rfl (hb hby at_169) rfl rfl k) ?_
        refine own_sW T359 (mkF m 172 #[iv p0, iv p1, own_j p2, s_, rv ta, iv mo, iv 6, rv ad320, u_, u_, u_] [.int p0, .ref ta, .int 4, .int 4, .ref ad320]) (fun t k => XS.iloadN X359.here hx rfl (hb hby at_171) rfl k) ?_
        refine own_sW T359 (mkF m 173 #[iv p0, iv p1, own_j p2, s_, rv ta, iv mo, iv 6, rv ad320, u_, u_, u_] [.long p2, .int p0, .ref ta, .int 4, .int 4, .ref ad320]) (fun t k => XS.lloadN X359.here hx rfl (hb hby at_172) rfl k) ?_
        obtain ⟨_, _, ⟨T368, L368, k368, n368⟩, -, X368, ⟨Lc368, hQ368, lq368, yq368, zq368⟩, st368⟩ := Jvm.LawKit.callS X359 hx (y := (⟨"com/example/umpire/umpire/xsts/ValidityOfPinLaw", "ch", "(ILjava/lang/String;IJ)C"⟩ : MethodName)) hown (mvT hZ (hW 22 _ rfl)) (mvT hZ (hW 23 _ rfl)) (mvT hZ (hW 24 _ rfl)) (mvT hZ (hW 25 _ rfl)) (by decide) (backOf (W := 2) (rm_ch l Z a0 hw [] ta tb tk tn tl (4 : Int32) p0 p2 fm ic h359 n0 Z359 g360 g361 g362 g363 O359 hfm S_f htf (by decide) S_c hic) hZ (hW 25 _ rfl) (hW 24 _ rfl) (by decide) (by decide)) (g := (mkF m 173 #[iv p0, iv p1, own_j p2, s_, rv ta, iv mo, iv 6, rv ad320, u_, u_, u_] [.long p2, .int p0, .ref ta, .int 4, .int 4, .ref ad320])) rfl (by rw [hml]; rfl) (argsL := [(.int (4 : Int32)), (.ref ta), (.int p0), (.long p2)]) (rest := [(.int (4 : Int32)), (.ref ad320)]) (lenOf pd_20 rfl) rfl (by show 2 * 0 + _ ≤ _; exact Nat.le_of_eq rfl) (hb hby at_173) (fun _ _ => ⟨rfl, e359, (by decide : 3 + 0 ≤ _), (by decide : 38 + 0 ≤ _)⟩)
        dsimp only [Pt.U, Pt.locs, Pt.cells, Pt.slots] at X368 lq368 yq368 zq368 st368 hQ368
        subst lq368 yq368 zq368
        obtain ⟨rfl, Nq368, eq367⟩ := hQ368
        have N368 := Fr.app N359 Nq368
        refine own_sW T368 (mkF m 176 #[iv p0, iv p1, own_j p2, s_, rv ta, iv mo, iv 6, rv ad320, u_, u_, u_] [.int (nar .char (own_chv tl tn p0 (4 : Int32) p2)), .int 4, .ref ad320]) st368 ?_
        have hb4 := own_c255 tl tn p0 (4 : Int32) p2
        revert hb4
        generalize (nar .char (own_chv tl tn p0 (4 : Int32) p2)) = c4
        intro hb4
        obtain ⟨cl369, Ar369, qa369, S369, M369, H369, U369⟩ := id g364
        obtain ⟨T369, h369, X369, e369, W369, st369⟩ := stC X368 hx hZ eq367 Ar369 (j := (4 : Int32)) (inb_of S369 ⟨by decide, by decide⟩) (g := (mkF m 176 #[iv p0, iv p1, own_j p2, s_, rv ta, iv mo, iv 6, rv ad320, u_, u_, u_] [.int c4, .int 4, .ref ad320])) rfl rfl (hb hby at_176)
        have g370 := g360.wr W369
        have g371 := g361.other W369 (Or.inl ne320_1)
        have g372 := g362.other W369 (Or.inl ne320_1)
        have g373 := g363.other W369 ne320_2
        have g374 : Arv Z h369 ad320 k320 .char (6 : Int32) [(.int (nar .char c0)), (.int (nar .char c1)), (.int (nar .char c2)), (.int (nar .char c3)), (.int (nar .char c4)), (.int (0 : Int32))] (.int (0 : Int32)) := Arv.set Ar369 qa369 S369 M369 H369 U369 (fits_nar_char _) W369 4 rfl (Nat.le_of_ble_eq_true rfl)
        have C375 := C365.trans (CHr.wr W369 sf365_ad320 C365.1)
        have J375 := Nat.le_trans J365 (Nat.le_of_eq W369.size.symm)
        have sf375_ad320 := Safe.wr W369 sf365_ad320 C365.1 sf365_ad320
        have N369 := Fr.snoc X369 N368 o320
        have Z369 : n0 ≤ h369.size := (Nat.le_trans Z359 (Nat.le_of_eq W369.size.symm))
        have O369 : Old Z n0 h369 := O359.wr W369 o320
        refine own_sW T369 (mkF m 177 #[iv p0, iv p1, own_j p2, s_, rv ta, iv mo, iv 6, rv ad320, u_, u_, u_] []) st369 ?_
        refine own_sW T369 (mkF m 179 #[iv p0, iv p1, own_j p2, s_, rv ta, iv mo, iv 6, rv ad320, u_, u_, u_] [.int 6]) (fun t k => XS.iload X369.here hx rfl (hb hby at_177) rfl k) ?_
        refine own_sW T369 (mkF m 180 #[iv p0, iv p1, own_j p2, s_, rv ta, iv mo, iv 6, rv ad320, u_, u_, u_] [.int 5, .int 6]) (fun t k => XS.iconst X369.here hx rfl (hb hby at_179) k) ?_
        refine own_sW T369 (mkF m 183 #[iv p0, iv p1, own_j p2, s_, rv ta, iv mo, iv 6, rv ad320, u_, u_, u_] []) (fun t k => XS.icmpNo X369.here hx rfl (hb hby at_180) rfl (tlt (by decide : ((5 : Int32) < (6 : Int32)))).2.2.2 k) ?_
        refine own_sW T369 (mkF m 185 #[iv p0, iv p1, own_j p2, s_, rv ta, iv mo, iv 6, rv ad320, u_, u_, u_] [.ref ad320]) (fun t k => XS.aload X369.here hx rfl (hb hby at_183) rfl rfl k) ?_
        refine own_sW T369 (mkF m 186 #[iv p0, iv p1, own_j p2, s_, rv ta, iv mo, iv 6, rv ad320, u_, u_, u_] [.int 5, .ref ad320]) (fun t k => XS.iconst X369.here hx rfl (hb hby at_185) k) ?_
        refine own_sW T369 (mkF m 187 #[iv p0, iv p1, own_j p2, s_, rv ta, iv mo, iv 6, rv ad320, u_, u_, u_] [.int 5, .int 5, .ref ad320]) (fun t k => XS.iconst X369.here hx rfl (hb hby at_186) k) ?_
        refine own_sW T369 (mkF m 189 #[iv p0, iv p1, own_j p2, s_, rv ta, iv mo, iv 6, rv ad320, u_, u_, u_] [.ref ta, .int 5, .int 5, .ref ad320]) (fun t k => XS.aload X369.here hx rfl (hb hby at_187) rfl rfl k) ?_
        refine own_sW T369 (mkF m 190 #[iv p0, iv p1, own_j p2, s_, rv ta, iv mo, iv 6, rv ad320, u_, u_, u_] [.int p0, .ref ta, .int 5, .int 5, .ref ad320]) (fun t k => XS.iloadN X369.here hx rfl (hb hby at_189) rfl k) ?_
        refine own_sW T369 (mkF m 191 #[iv p0, iv p1, own_j p2, s_, rv ta, iv mo, iv 6, rv ad320, u_, u_, u_] [.long p2, .int p0, .ref ta, .int 5, .int 5, .ref ad320]) (fun t k => XS.lloadN X369.here hx rfl (hb hby at_190) rfl k) ?_
        obtain ⟨_, _, ⟨T378, L378, k378, n378⟩, -, X378, ⟨Lc378, hQ378, lq378, yq378, zq378⟩, st378⟩ := Jvm.LawKit.callS X369 hx (y := (⟨"com/example/umpire/umpire/xsts/ValidityOfPinLaw", "ch", "(ILjava/lang/String;IJ)C"⟩ : MethodName)) hown (mvT hZ (hW 22 _ rfl)) (mvT hZ (hW 23 _ rfl)) (mvT hZ (hW 24 _ rfl)) (mvT hZ (hW 25 _ rfl)) (by decide) (backOf (W := 2) (rm_ch l Z a0 hw [] ta tb tk tn tl (5 : Int32) p0 p2 fm ic h369 n0 Z369 g370 g371 g372 g373 O369 hfm S_f htf (by decide) S_c hic) hZ (hW 25 _ rfl) (hW 24 _ rfl) (by decide) (by decide)) (g := (mkF m 191 #[iv p0, iv p1, own_j p2, s_, rv ta, iv mo, iv 6, rv ad320, u_, u_, u_] [.long p2, .int p0, .ref ta, .int 5, .int 5, .ref ad320])) rfl (by rw [hml]; rfl) (argsL := [(.int (5 : Int32)), (.ref ta), (.int p0), (.long p2)]) (rest := [(.int (5 : Int32)), (.ref ad320)]) (lenOf pd_20 rfl) rfl (by show 2 * 0 + _ ≤ _; exact Nat.le_of_eq rfl) (hb hby at_191) (fun _ _ => ⟨rfl, e369, (by decide : 3 + 0 ≤ _), (by decide : 38 + 0 ≤ _)⟩)
        dsimp only [Pt.U, Pt.locs, Pt.cells, Pt.slots] at X378 lq378 yq378 zq378 st378 hQ378
        subst lq378 yq378 zq378
        obtain ⟨rfl, Nq378, eq377⟩ := hQ378
        have N378 := Fr.app N369 Nq378
        refine own_sW T378 (mkF m 194 #[iv p0, iv p1, own_j p2, s_, rv ta, iv mo, iv 6, rv ad320, u_, u_, u_] [.int (nar .char (own_chv tl tn p0 (5 : Int32) p2)), .int 5, .ref ad320]) st378 ?_
        have hb5 := own_c255 tl tn p0 (5 : Int32) p2
        revert hb5
        generalize (nar .char (own_chv tl tn p0 (5 : Int32) p2)) = c5
        intro hb5
        obtain ⟨cl379, Ar379, qa379, S379, M379, H379, U379⟩ := id g374
        obtain ⟨T379, h379, X379, e379, W379, st379⟩ := stC X378 hx hZ eq377 Ar379 (j := (5 : Int32)) (inb_of S379 ⟨by decide, by decide⟩) (g := (mkF m 194 #[iv p0, iv p1, own_j p2, s_, rv ta, iv mo, iv 6, rv ad320, u_, u_, u_] [.int c5, .int 5, .ref ad320])) rfl rfl (hb hby at_194)
        have g380 := g370.wr W379
        have g381 := g371.other W379 (Or.inl ne320_1)
        have g382 := g372.other W379 (Or.inl ne320_1)
        have g383 := g373.other W379 ne320_2
        have g384 : Arv Z h379 ad320 k320 .char (6 : Int32) [(.int (nar .char c0)), (.int (nar .char c1)), (.int (nar .char c2)), (.int (nar .char c3)), (.int (nar .char c4)), (.int (nar .char c5))] (.int (0 : Int32)) := Arv.set Ar379 qa379 S379 M379 H379 U379 (fits_nar_char _) W379 5 rfl (Nat.le_of_ble_eq_true rfl)
        have C385 := C375.trans (CHr.wr W379 sf375_ad320 C375.1)
        have J385 := Nat.le_trans J375 (Nat.le_of_eq W379.size.symm)
        have sf385_ad320 := Safe.wr W379 sf375_ad320 C375.1 sf375_ad320
        have N379 := Fr.snoc X379 N378 o320
        have Z379 : n0 ≤ h379.size := (Nat.le_trans Z369 (Nat.le_of_eq W379.size.symm))
        have O379 : Old Z n0 h379 := O369.wr W379 o320
        refine own_sW T379 (mkF m 195 #[iv p0, iv p1, own_j p2, s_, rv ta, iv mo, iv 6, rv ad320, u_, u_, u_] []) st379 ?_
        refine own_sW T379 (mkF m 197 #[iv p0, iv p1, own_j p2, s_, rv ta, iv mo, iv 6, rv ad320, u_, u_, u_] [.int 6]) (fun t k => XS.iload X379.here hx rfl (hb hby at_195) rfl k) ?_
        refine own_sW T379 (mkF m 199 #[iv p0, iv p1, own_j p2, s_, rv ta, iv mo, iv 6, rv ad320, u_, u_, u_] [.int 6, .int 6]) (fun t k => XS.bipush X379.here hx rfl (hb hby at_197) k) ?_
        refine own_sW T379 (mkF m 216 #[iv p0, iv p1, own_j p2, s_, rv ta, iv mo, iv 6, rv ad320, u_, u_, u_] []) (fun t k => XS.icmpYes X379.here hx rfl (pc0 := 199) (pc' := 216) rfl (hb hby at_199) rfl (flt (by decide : ¬ ((6 : Int32) < (6 : Int32)))).2.2.2 (by decide) (by decide) k) ?_
        refine own_sW T379 (mkF m 218 #[iv p0, iv p1, own_j p2, s_, rv ta, iv mo, iv 6, rv ad320, u_, u_, u_] [.int 6]) (fun t k => XS.iload X379.here hx rfl (hb hby at_216) rfl k) ?_
        refine own_sW T379 (mkF m 220 #[iv p0, iv p1, own_j p2, s_, rv ta, iv mo, iv 6, rv ad320, u_, u_, u_] [.int 7, .int 6]) (fun t k => XS.bipush X379.here hx rfl (hb hby at_218) k) ?_
        refine own_sW T379 (mkF m 237 #[iv p0, iv p1, own_j p2, s_, rv ta, iv mo, iv 6, rv ad320, u_, u_, u_] []) (fun t k => XS.icmpYes X379.here hx rfl (pc0 := 220) (pc' := 237) rfl (hb hby at_220) rfl (flt (by decide : ¬ ((7 : Int32) < (6 : Int32)))).2.2.2 (by decide) (by decide) k) ?_
        exact j237 ad320 k320 (6 : Int32) [(.int (nar .char c0)), (.int (nar .char c1)), (.int (nar .char c2)), (.int (nar .char c3)), (.int (nar .char c4)), (.int (nar .char c5))] (6 : Int32) _ _ T379 h379 _ (X379.mono (by decide) (by decide)) hZ hown e379 N379 Z379 SH13 J385 C385 O379 g384 sf385_ad320 o320 (Or.inr (Or.inr (Or.inr (Or.inr (Or.inr (Or.inl ⟨_, _, _, _, _, _, rfl, rfl, hb0, hb1, hb2, hb3, hb4, hb5⟩))))))
      · refine own_sW TJ82 (mkF m 84 #[iv p0, iv p1, own_j p2, s_, rv ta, iv mo, iv 7, u_, u_, u_, u_] [.int 7]) (fun t k => XS.iload XJ82.here hx rfl (hb hby at_82) rfl k) ?_
        obtain ⟨T386, h386, k386, X386, e386, E386, A386, st386⟩ := newP XJ82 hx hZ (hW 21 _ rfl) eJ82 (g := (mkF m 84 #[iv p0, iv p1, own_j p2, s_, rv ta, iv mo, iv 7, u_, u_, u_, u_] [.int 7])) rfl (hb hby at_84) rfl (by decide) (cap := 7) (by decide) (by decide) (by decide : 2 + 1 ≤ _) (by decide : 32 + 7 ≤ _)
        obtain ⟨ad386, g_ad386⟩ : ∃ z, z = hH13.size := ⟨_, rfl⟩
        rw [← g_ad386] at A386 st386
        have g387 := f0H13.ext E386
        have g388 := f1H13.ext E386
        have g389 := f2H13.ext E386
        have g390 := f3H13.ext E386
        have ne386_1 : ta ≠ ad386 := Nat.ne_of_lt (by rw [g_ad386]; exact f0H13.lt)
        have ne386_2 : tb ≠ ad386 := Nat.ne_of_lt (by rw [g_ad386]; exact f3H13.lt)
        have o386 : n0 ≤ ad386 := (Nat.le_trans ZH13 (Nat.le_of_eq g_ad386.symm))
        have Z386 : n0 ≤ h386.size := (Nat.le_trans ZH13 E386.1)
        have O386 : Old Z n0 h386 := OH13.ext E386
        have C391 := CH13.trans (CHr.ext E386 CH13.1)
        have J391 := Nat.le_trans JH13 E386.1
        have sf391_ad386 : Safe Z own_EL _ h386 ad386 := Safe.ext E386 CH13.1 (Safe.new (Nat.le_of_eq g_ad386.symm))
        have V386 : Arv Z h386 ad386 k386 .char (7 : Int32) [(.int (0 : Int32)), (.int (0 : Int32)), (.int (0 : Int32)), (.int (0 : Int32)), (.int (0 : Int32)), (.int (0 : Int32)), (.int (0 : Int32))] (.int (0 : Int32)) := (Arv.new A386 (by decide)).pad (pad_rep [] (.int (0 : Int32)) 7)
        refine own_sW T386 (mkF m 86 #[iv p0, iv p1, own_j p2, s_, rv ta, iv mo, iv 7, u_, u_, u_, u_] [.ref ad386]) st386 ?_
        refine own_sW T386 (mkF m 88 #[iv p0, iv p1, own_j p2, s_, rv ta, iv mo, iv 7, rv ad386, u_, u_, u_] []) (fun t k => XS.astore X386.here hx rfl (hb hby at_86) rfl rfl (l' := #[iv p0, iv p1, own_j p2, s_, rv ta, iv mo, iv 7, rv ad386, u_, u_, u_]) rfl k) ?_
        refine own_sW T386 (mkF m 90 #[iv p0, iv p1, own_j p2, s_, rv ta, iv mo, iv 7, rv ad386, u_, u_, u_] [.int 7]) (fun t k => XS.iload X386.here hx rfl (hb hby at_88) rfl k) ?_
        refine own_sW T386 (mkF m 93 #[iv p0, iv p1, own_j p2, s_, rv ta, iv mo, iv 7, rv ad386, u_, u_, u_] []) (fun t k => XS.ifNo X386.here hx rfl (hb hby at_90) rfl ((if0 _ _).trans (tlt (by decide : ((0 : Int32) < (7 : Int32)))).2.2.2) k) ?_
        refine own_sW T386 (mkF m 95 #[iv p0, iv p1, own_j p2, s_, rv ta, iv mo, iv 7, rv ad386, u_, u_, u_] [.ref ad386]) (fun t k => XS.aload X386.here hx rfl (hb hby at_93) rfl rfl k) ?_
        refine own_sW T386 (mkF m 96 #[iv p0, iv p1, own_j p2, s_, rv ta, iv mo, iv 7, rv ad386, u_, u_, u_] [.int 0, .ref ad386]) (fun t k => XS.iconst X386.here hx rfl (hb hby at_95) k) ?_
        refine own_sW T386 (mkF m 97 #[iv p0, iv p1, own_j p2, s_, rv ta, iv mo, iv 7, rv ad386, u_, u_, u_] [.int 0, .int 0, .ref ad386]) (fun t k => XS.iconst X386.here hx rfl (hb hby at_96) k) ?_
        refine own_sW T386 (mkF m 99 #[iv p0, iv p1, own_j p2, s_, rv ta, iv mo, iv 7, rv ad386, u_, u_, u_] [.ref ta, .int 0, .int 0, .ref ad386]) (fun t k => XS.aload X386.here hx rfl (hb hby at_97) rfl rfl k) ?_
        refine own_sW T386 (mkF m 100 #[iv p0, iv p1, own_j p2, s_, rv ta, iv mo, iv 7, rv ad386, u_, u_, u_] [.int p0, .ref ta, .int 0, .int 0, .ref ad386]) (fun t k => XS.iloadN X386.here hx rfl (hb hby at_99) rfl k) ?_
        refine own_sW T386 (mkF m 101 #[iv p0, iv p1, own_j p2, s_, rv ta, iv mo, iv 7, rv ad386, u_, u_, u_] [.long p2, .int p0, .ref ta, .int 0, .int 0, .ref ad386]) (fun t k => XS.lloadN X386.here hx rfl (hb hby at_100) rfl k) ?_
        obtain ⟨_, _, ⟨T394, L394, k394, n394⟩, -, X394, ⟨Lc394, hQ394, lq394, yq394, zq394⟩, st394⟩ := Jvm.LawKit.callS X386 hx (y := (⟨"com/example/umpire/umpire/xsts/ValidityOfPinLaw", "ch", "(ILjava/lang/String;IJ)C"⟩ : MethodName)) hown (mvT hZ (hW 22 _ rfl)) (mvT hZ (hW 23 _ rfl)) (mvT hZ (hW 24 _ rfl)) (mvT hZ (hW 25 _ rfl)) (by decide) (backOf (W := 2) (rm_ch l Z a0 hw [] ta tb tk tn tl (0 : Int32) p0 p2 fm ic h386 n0 Z386 g387 g388 g389 g390 O386 hfm S_f htf (by decide) S_c hic) hZ (hW 25 _ rfl) (hW 24 _ rfl) (by decide) (by decide)) (g := (mkF m 101 #[iv p0, iv p1, own_j p2, s_, rv ta, iv mo, iv 7, rv ad386, u_, u_, u_] [.long p2, .int p0, .ref ta, .int 0, .int 0, .ref ad386])) rfl (by rw [hml]; rfl) (argsL := [(.int (0 : Int32)), (.ref ta), (.int p0), (.long p2)]) (rest := [(.int (0 : Int32)), (.ref ad386)]) (lenOf pd_20 rfl) rfl (by show 2 * 0 + _ ≤ _; exact Nat.le_of_eq rfl) (hb hby at_101) (fun _ _ => ⟨rfl, e386, (by decide : 3 + 0 ≤ _), (by decide : 39 + 0 ≤ _)⟩)
        dsimp only [Pt.U, Pt.locs, Pt.cells, Pt.slots] at X394 lq394 yq394 zq394 st394 hQ394
        subst lq394 yq394 zq394
        obtain ⟨rfl, Nq394, eq393⟩ := hQ394
        have N394 := Fr.app NJ82 Nq394
        refine own_sW T394 (mkF m 104 #[iv p0, iv p1, own_j p2, s_, rv ta, iv mo, iv 7, rv ad386, u_, u_, u_] [.int (nar .char (own_chv tl tn p0 (0 : Int32) p2)), .int 0, .ref ad386]) st394 ?_
        have hb0 := own_c255 tl tn p0 (0 : Int32) p2
        revert hb0
        generalize (nar .char (own_chv tl tn p0 (0 : Int32) p2)) = c0
        intro hb0
        obtain ⟨cl395, Ar395, qa395, S395, M395, H395, U395⟩ := id V386
        obtain ⟨T395, h395, X395, e395, W395, st395⟩ := stC X394 hx hZ eq393 Ar395 (j := (0 : Int32)) (inb_of S395 ⟨by decide, by decide⟩) (g := (mkF m 104 #[iv p0, iv p1, own_j p2, s_, rv ta, iv mo, iv 7, rv ad386, u_, u_, u_] [.int c0, .int 0, .ref ad386])) rfl rfl (hb hby at_104)
        have g396 := g387.wr W395
        have g397 := g388.other W395 (Or.inl ne386_1)
        have g398 := g389.other W395 (Or.inl ne386_1)
        have g399 := g390.other W395 ne386_2
        have g400 : Arv Z h395 ad386 k386 .char (7 : Int32) [(.int (nar .char c0)), (.int (0 : Int32)), (.int (0 : Int32)), (.int (0 : Int32)), (.int (0 : Int32)), (.int (0 : Int32)), (.int (0 : Int32))] (.int (0 : Int32)) := Arv.set Ar395 qa395 S395 M395 H395 U395 (fits_nar_char _) W395 0 rfl (Nat.le_of_ble_eq_true rfl)
        have C401 := C391.trans (CHr.wr W395 sf391_ad386 C391.1)
        have J401 := Nat.le_trans J391 (Nat.le_of_eq W395.size.symm)
        have sf401_ad386 := Safe.wr W395 sf391_ad386 C391.1 sf391_ad386
        have N395 := Fr.snoc X395 N394 o386
        have Z395 : n0 ≤ h395.size := (Nat.le_trans Z386 (Nat.le_of_eq W395.size.symm))
        have O395 : Old Z n0 h395 := O386.wr W395 o386
        refine own_sW T395 (mkF m 105 #[iv p0, iv p1, own_j p2, s_, rv ta, iv mo, iv 7, rv ad386, u_, u_, u_] []) st395 ?_
        refine own_sW T395 (mkF m 107 #[iv p0, iv p1, own_j p2, s_, rv ta, iv mo, iv 7, rv ad386, u_, u_, u_] [.int 7]) (fun t k => XS.iload X395.here hx rfl (hb hby at_105) rfl k) ?_
        refine own_sW T395 (mkF m 108 #[iv p0, iv p1, own_j p2, s_, rv ta, iv mo, iv 7, rv ad386, u_, u_, u_] [.int 1, .int 7]) (fun t k => XS.iconst X395.here hx rfl (hb hby at_107) k) ?_
        refine own_sW T395 (mkF m 111 #[iv p0, iv p1, own_j p2, s_, rv ta, iv mo, iv 7, rv ad386, u_, u_, u_] []) (fun t k => XS.icmpNo X395.here hx rfl (hb hby at_108) rfl (tlt (by decide : ((1 : Int32) < (7 : Int32)))).2.2.2 k) ?_
        refine own_sW T395 (mkF m 113 #[iv p0, iv p1, own_j p2, s_, rv ta, iv mo, iv 7, rv ad386, u_, u_, u_] [.ref ad386]) (fun t k => XS.aload X395.here hx rfl (hb hby at_111) rfl rfl k) ?_
        refine own_sW T395 (mkF m 114 #[iv p0, iv p1, own_j p2, s_, rv ta, iv mo, iv 7, rv ad386, u_, u_, u_] [.int 1, .ref ad386]) (fun t k => XS.iconst X395.here hx rfl (hb hby at_113) k) ?_
        refine own_sW T395 (mkF m 115 #[iv p0, iv p1, own_j p2, s_, rv ta, iv mo, iv 7, rv ad386, u_, u_, u_] [.int 1, .int 1, .ref ad386]) (fun t k => XS.iconst X395.here hx rfl (hb hby at_114) k) ?_
        refine own_sW T395 (mkF m 117 #[iv p0, iv p1, own_j p2, s_, rv ta, iv mo, iv 7, rv ad386, u_, u_, u_] [.ref ta, .int 1, .int 1, .ref ad386]) (fun t k => XS.aload X395.here hx rfl (hb hby at_115) rfl rfl k) ?_
        refine own_sW T395 (mkF m 118 #[iv p0, iv p1, own_j p2, s_, rv ta, iv mo, iv 7, rv ad386, u_, u_, u_] [.int p0, .ref ta, .int 1, .int 1, .ref ad386]) (fun t k => XS.iloadN X395.here hx rfl (hb hby at_117) rfl k) ?_
        refine own_sW T395 (mkF m 119 #[iv p0, iv p1, own_j p2, s_, rv ta, iv mo, iv 7, rv ad386, u_, u_, u_] [.long p2, .int p0, .ref ta, .int 1, .int 1, .ref ad386]) (fun t k => XS.lloadN X395.here hx rfl (hb hby at_118) rfl k) ?_
        obtain ⟨_, _, ⟨T404, L404, k404, n404⟩, -, X404, ⟨Lc404, hQ404, lq404, yq404, zq404⟩, st404⟩ := Jvm.LawKit.callS X395 hx (y := (⟨"com/example/umpire/umpire/xsts/ValidityOfPinLaw", "ch", "(ILjava/lang/String;IJ)C"⟩ : MethodName)) hown (mvT hZ (hW 22 _ rfl)) (mvT hZ (hW 23 _ rfl)) (mvT hZ (hW 24 _ rfl)) (mvT hZ (hW 25 _ rfl)) (by decide) (backOf (W := 2) (rm_ch l Z a0 hw [] ta tb tk tn tl (1 : Int32) p0 p2 fm ic h395 n0 Z395 g396 g397 g398 g399 O395 hfm S_f htf (by decide) S_c hic) hZ (hW 25 _ rfl) (hW 24 _ rfl) (by decide) (by decide)) (g := (mkF m 119 #[iv p0, iv p1, own_j p2, s_, rv ta, iv mo, iv 7, rv ad386, u_, u_, u_] [.long p2, .int p0, .ref ta, .int 1, .int 1, .ref ad386])) rfl (by rw [hml]; rfl) (argsL := [(.int (1 : Int32)), (.ref ta), (.int p0), (.long p2)]) (rest := [(.int (1 : Int32)), (.ref ad386)]) (lenOf pd_20 rfl) rfl (by show 2 * 0 + _ ≤ _; exact Nat.le_of_eq rfl) (hb hby at_119) (fun _ _ => ⟨rfl, e395, (by decide : 3 + 0 ≤ _), (by decide : 39 + 0 ≤ _)⟩)
        dsimp only [Pt.U, Pt.locs, Pt.cells, Pt.slots] at X404 lq404 yq404 zq404 st404 hQ404
        subst lq404 yq404 zq404
        obtain ⟨rfl, Nq404, eq403⟩ := hQ404
        have N404 := Fr.app N395 Nq404
        refine own_sW T404 (mkF m 122 #[iv p0, iv p1, own_j p2, s_, rv ta, iv mo, iv 7, rv ad386, u_, u_, u_] [.int (nar .char (own_chv tl tn p0 (1 : Int32) p2)), .int 1, .ref ad386]) st404 ?_
        have hb1 := own_c255 tl tn p0 (1 : Int32) p2
        revert hb1
        generalize (nar .char (own_chv tl tn p0 (1 : Int32) p2)) = c1
        intro hb1
        obtain ⟨cl405, Ar405, qa405, S405, M405, H405, U405⟩ := id g400
        obtain ⟨T405, h405, X405, e405, W405, st405⟩ := stC X404 hx hZ eq403 Ar405 (j := (1 : Int32)) (inb_of S405 ⟨by decide, by decide⟩) (g := (mkF m 122 #[iv p0, iv p1, own_j p2, s_, rv ta, iv mo, iv 7, rv ad386, u_, u_, u_] [.int c1, .int 1, .ref ad386])) rfl rfl (hb hby at_122)
        have g406 := g396.wr W405
        have g407 := g397.other W405 (Or.inl ne386_1)
        have g408 := g398.other W405 (Or.inl ne386_1)
        have g409 := g399.other W405 ne386_2
        have g410 : Arv Z h405 ad386 k386 .char (7 : Int32) [(.int (nar .char c0)), (.int (nar .char c1)), (.int (0 : Int32)), (.int (0 : Int32)), (.int (0 : Int32)), (.int (0 : Int32)), (.int (0 : Int32))] (.int (0 : Int32)) := Arv.set Ar405 qa405 S405 M405 H405 U405 (fits_nar_char _) W405 1 rfl (Nat.le_of_ble_eq_true rfl)
        have C411 := C401.trans (CHr.wr W405 sf401_ad386 C401.1)
        have J411 := Nat.le_trans J401 (Nat.le_of_eq W405.size.symm)
        have sf411_ad386 := Safe.wr W405 sf401_ad386 C401.1 sf401_ad386
        have N405 := Fr.snoc X405 N404 o386
        have Z405 : n0 ≤ h405.size := (Nat.le_trans Z395 (Nat.le_of_eq W405.size.symm))
        have O405 : Old Z n0 h405 := O395.wr W405 o386
        refine own_sW T405 (mkF m 123 #[iv p0, iv p1, own_j p2, s_, rv ta, iv mo, iv 7, rv ad386, u_, u_, u_] []) st405 ?_
        refine own_sW T405 (mkF m 125 #[iv p0, iv p1, own_j p2, s_, rv ta, iv mo, iv 7, rv ad386, u_, u_, u_] [.int 7]) (fun t k => XS.iload X405.here hx rfl (hb hby at_123) rfl k) ?_
        refine own_sW T405 (mkF m 126 #[iv p0, iv p1, own_j p2, s_, rv ta, iv mo, iv 7, rv ad386, u_, u_, u_] [.int 2, .int 7]) (fun t k => XS.iconst X405.here hx rfl (hb hby at_125) k) ?_
        refine own_sW T405 (mkF m 129 #[iv p0, iv p1, own_j p2, s_, rv ta, iv mo, iv 7, rv ad386, u_, u_, u_] []) (fun t k => XS.icmpNo X405.here hx rfl (hb hby at_126) rfl (tlt (by decide : ((2 : Int32) < (7 : Int32)))).2.2.2 k) ?_
        refine own_sW T405 (mkF m 131 #[iv p0, iv p1, own_j p2, s_, rv ta, iv mo, iv 7, rv ad386, u_, u_, u_] [.ref ad386]) (fun t k => XS.aload X405.here hx rfl (hb hby at_129) rfl rfl k) ?_
        refine own_sW T405 (mkF m 132 #[iv p0, iv p1, own_j p2, s_, rv ta, iv mo, iv 7, rv ad386, u_, u_, u_] [.int 2, .ref ad386]) (fun t k => XS.iconst X405.here hx rfl (hb hby at_131) k) ?_
        refine own_sW T405 (mkF m 133 #[iv p0, iv p1, own_j p2, s_, rv ta, iv mo, iv 7, rv ad386, u_, u_, u_] [.int 2, .int 2, .ref ad386]) (fun t k => XS.iconst X405.here hx rfl (hb hby at_132) k) ?_
        refine own_sW T405 (mkF m 135 #[iv p0, iv p1, own_j p2, s_, rv ta, iv mo, iv 7, rv ad386, u_, u_, u_] [.ref ta, .int 2, .int 2, .ref ad386]) (fun t k => XS.aload X405.here hx rfl (hb hby at_133) rfl rfl k) ?_
        refine own_sW T405 (mkF m 136 #[iv p0, iv p1, own_j p2, s_, rv ta, iv mo, iv 7, rv ad386, u_, u_, u_] [.int p0, .ref ta, .int 2, .int 2, .ref ad386]) (fun t k => XS.iloadN X405.here hx rfl (hb hby at_135) rfl k) ?_
        refine own_sW T405 (mkF m 137 #[iv p0, iv p1, own_j p2, s_, rv ta, iv mo, iv 7, rv ad386, u_, u_, u_] [.long p2, .int p0, .ref ta, .int 2, .int 2, .ref ad386]) (fun t k => XS.lloadN X405.here hx rfl (hb hby at_136) rfl k) ?_
        obtain ⟨_, _, ⟨T414, L414, k414, n414⟩, -, X414, ⟨Lc414, hQ414, lq414, yq414, zq414⟩, st414⟩ := Jvm.LawKit.callS X405 hx (y := (⟨"com/example/umpire/umpire/xsts/ValidityOfPinLaw", "ch", "(ILjava/lang/String;IJ)C"⟩ : MethodName)) hown (mvT hZ (hW 22 _ rfl)) (mvT hZ (hW 23 _ rfl)) (mvT hZ (hW 24 _ rfl)) (mvT hZ (hW 25 _ rfl)) (by decide) (backOf (W := 2) (rm_ch l Z a0 hw [] ta tb tk tn tl (2 : Int32) p0 p2 fm ic h405 n0 Z405 g406 g407 g408 g409 O405 hfm S_f htf (by decide) S_c hic) hZ (hW 25 _ rfl) (hW 24 _ rfl) (by decide) (by decide)) (g := (mkF m 137 #[iv p0, iv p1, own_j p2, s_, rv ta, iv mo, iv 7, rv ad386, u_, u_, u_] [.long p2, .int p0, .ref ta, .int 2, .int 2, .ref ad386])) rfl (by rw [hml]; rfl) (argsL := [(.int (2 : Int32)), (.ref ta), (.int p0), (.long p2)]) (rest := [(.int (2 : Int32)), (.ref ad386)]) (lenOf pd_20 rfl) rfl (by show 2 * 0 + _ ≤ _; exact Nat.le_of_eq rfl) (hb hby at_137) (fun _ _ => ⟨rfl, e405, (by decide : 3 + 0 ≤ _), (by decide : 39 + 0 ≤ _)⟩)
        dsimp only [Pt.U, Pt.locs, Pt.cells, Pt.slots] at X414 lq414 yq414 zq414 st414 hQ414
        subst lq414 yq414 zq414
        obtain ⟨rfl, Nq414, eq413⟩ := hQ414
        have N414 := Fr.app N405 Nq414
        refine own_sW T414 (mkF m 140 #[iv p0, iv p1, own_j p2, s_, rv ta, iv mo, iv 7, rv ad386, u_, u_, u_] [.int (nar .char (own_chv tl tn p0 (2 : Int32) p2)), .int 2, .ref ad386]) st414 ?_
        have hb2 := own_c255 tl tn p0 (2 : Int32) p2
        revert hb2
        generalize (nar .char (own_chv tl tn p0 (2 : Int32) p2)) = c2
        intro hb2
        obtain ⟨cl415, Ar415, qa415, S415, M415, H415, U415⟩ := id g410
        obtain ⟨T415, h415, X415, e415, W415, st415⟩ := stC X414 hx hZ eq413 Ar415 (j := (2 : Int32)) (inb_of S415 ⟨by decide, by decide⟩) (g := (mkF m 140 #[iv p0, iv p1, own_j p2, s_, rv ta, iv mo, iv 7, rv ad386, u_, u_, u_] [.int c2, .int 2, .ref ad386])) rfl rfl (hb hby at_140)
        have g416 := g406.wr W415
        have g417 := g407.other W415 (Or.inl ne386_1)
        have g418 := g408.other W415 (Or.inl ne386_1)
        have g419 := g409.other W415 ne386_2
        have g420 : Arv Z h415 ad386 k386 .char (7 : Int32) [(.int (nar .char c0)), (.int (nar .char c1)), (.int (nar .char c2)), (.int (0 : Int32)), (.int (0 : Int32)), (.int (0 : Int32)), (.int (0 : Int32))] (.int (0 : Int32)) := Arv.set Ar415 qa415 S415 M415 H415 U415 (fits_nar_char _) W415 2 rfl (Nat.le_of_ble_eq_true rfl)
        have C421 := C411.trans (CHr.wr W415 sf411_ad386 C411.1)
        have J421 := Nat.le_trans J411 (Nat.le_of_eq W415.size.symm)
        have sf421_ad386 := Safe.wr W415 sf411_ad386 C411.1 sf411_ad386
        have N415 := Fr.snoc X415 N414 o386
        have Z415 : n0 ≤ h415.size := (Nat.le_trans Z405 (Nat.le_of_eq W415.size.symm))
        have O415 : Old Z n0 h415 := O405.wr W415 o386
        refine own_sW T415 (mkF m 141 #[iv p0, iv p1, own_j p2, s_, rv ta, iv mo, iv 7, rv ad386, u_, u_, u_] []) st415 ?_
        refine own_sW T415 (mkF m 143 #[iv p0, iv p1, own_j p2, s_, rv ta, iv mo, iv 7, rv ad386, u_, u_, u_] [.int 7]) (fun t k => XS.iload X415.here hx rfl (hb hby at_141) rfl k) ?_
        refine own_sW T415 (mkF m 144 #[iv p0, iv p1, own_j p2, s_, rv ta, iv mo, iv 7, rv ad386, u_, u_, u_] [.int 3, .int 7]) (fun t k => XS.iconst X415.here hx rfl (hb hby at_143) k) ?_
        refine own_sW T415 (mkF m 147 #[iv p0, iv p1, own_j p2, s_, rv ta, iv mo, iv 7, rv ad386, u_, u_, u_] []) (fun t k => XS.icmpNo X415.here hx rfl (hb hby at_144) rfl (tlt (by decide : ((3 : Int32) < (7 : Int32)))).2.2.2 k) ?_
        refine own_sW T415 (mkF m 149 #[iv p0, iv p1, own_j p2, s_, rv ta, iv mo, iv 7, rv ad386, u_, u_, u_] [.ref ad386]) (fun t k => XS.aload X415.here hx rfl (hb hby at_147) rfl rfl k) ?_
        refine own_sW T415 (mkF m 150 #[iv p0, iv p1, own_j p2, s_, rv ta, iv mo, iv 7, rv ad386, u_, u_, u_] [.int 3, .ref ad386]) (fun t k => XS.iconst X415.here hx rfl (hb hby at_149) k) ?_
        refine own_sW T415 (mkF m 151 #[iv p0, iv p1, own_j p2, s_, rv ta, iv mo, iv 7, rv ad386, u_, u_, u_] [.int 3, .int 3, .ref ad386]) (fun t k => XS.iconst X415.here hx rfl (hb hby at_150) k) ?_
        refine own_sW T415 (mkF m 153 #[iv p0, iv p1, own_j p2, s_, rv ta, iv mo, iv 7, rv ad386, u_, u_, u_] [.ref ta, .int 3, .int 3, .ref ad386]) (fun t k => XS.aload X415.here hx rfl (hb hby at_151) rfl rfl k) ?_
        refine own_sW T415 (mkF m 154 #[iv p0, iv p1, own_j p2, s_, rv ta, iv mo, iv 7, rv ad386, u_, u_, u_] [.int p0, .ref ta, .int 3, .int 3, .ref ad386]) (fun t k => XS.iloadN X415.here hx rfl (hb hby at_153) rfl k) ?_
        refine own_sW T415 (mkF m 155 #[iv p0, iv p1, own_j p2, s_, rv ta, iv mo, iv 7, rv ad386, u_, u_, u_] [.long p2, .int p0, .ref ta, .int 3, .int 3, .ref ad386]) (fun t k => XS.lloadN X415.here hx rfl (hb hby at_154) rfl k) ?_
        obtain ⟨_, _, ⟨T424, L424, k424, n424⟩, -, X424, ⟨Lc424, hQ424, lq424, yq424, zq424⟩, st424⟩ := Jvm.LawKit.callS X415 hx (y := (⟨"com/example/umpire/umpire/xsts/ValidityOfPinLaw", "ch", "(ILjava/lang/String;IJ)C"⟩ : MethodName)) hown (mvT hZ (hW 22 _ rfl)) (mvT hZ (hW 23 _ rfl)) (mvT hZ (hW 24 _ rfl)) (mvT hZ (hW 25 _ rfl)) (by decide) (backOf (W := 2) (rm_ch l Z a0 hw [] ta tb tk tn tl (3 : Int32) p0 p2 fm ic h415 n0 Z415 g416 g417 g418 g419 O415 hfm S_f htf (by decide) S_c hic) hZ (hW 25 _ rfl) (hW 24 _ rfl) (by decide) (by decide)) (g := (mkF m 155 #[iv p0, iv p1, own_j p2, s_, rv ta, iv mo, iv 7, rv ad386, u_, u_, u_] [.long p2, .int p0, .ref ta, .int 3, .int 3, .ref ad386])) rfl (by rw [hml]; rfl) (argsL := [(.int (3 : Int32)), (.ref ta), (.int p0), (.long p2)]) (rest := [(.int (3 : Int32)), (.ref ad386)]) (lenOf pd_20 rfl) rfl (by show 2 * 0 + _ ≤ _; exact Nat.le_of_eq rfl) (hb hby at_155) (fun _ _ => ⟨rfl, e415, (by decide : 3 + 0 ≤ _), (by decide : 39 + 0 ≤ _)⟩)
        dsimp only [Pt.U, Pt.locs, Pt.cells, Pt.slots] at X424 lq424 yq424 zq424 st424 hQ424
        subst lq424 yq424 zq424
        obtain ⟨rfl, Nq424, eq423⟩ := hQ424
        have N424 := Fr.app N415 Nq424
        refine own_sW T424 (mkF m 158 #[iv p0, iv p1, own_j p2, s_, rv ta, iv mo, iv 7, rv ad386, u_, u_, u_] [.int (nar .char (own_chv tl tn p0 (3 : Int32) p2)), .int 3, .ref ad386]) st424 ?_
        have hb3 := own_c255 tl tn p0 (3 : Int32) p2
        revert hb3
        generalize (nar .char (own_chv tl tn p0 (3 : Int32) p2)) = c3
        intro hb3
        obtain ⟨cl425, Ar425, qa425, S425, M425, H425, U425⟩ := id g420
        obtain ⟨T425, h425, X425, e425, W425, st425⟩ := stC X424 hx hZ eq423 Ar425 (j := (3 : Int32)) (inb_of S425 ⟨by decide, by decide⟩) (g := (mkF m 158 #[iv p0, iv p1, own_j p2, s_, rv ta, iv mo, iv 7, rv ad386, u_, u_, u_] [.int c3, .int 3, .ref ad386])) rfl rfl (hb hby at_158)
        have g426 := g416.wr W425
        have g427 := g417.other W425 (Or.inl ne386_1)
        have g428 := g418.other W425 (Or.inl ne386_1)
        have g429 := g419.other W425 ne386_2
        have g430 : Arv Z h425 ad386 k386 .char (7 : Int32) [(.int (nar .char c0)), (.int (nar .char c1)), (.int (nar .char c2)), (.int (nar .char c3)), (.int (0 : Int32)), (.int (0 : Int32)), (.int (0 : Int32))] (.int (0 : Int32)) := Arv.set Ar425 qa425 S425 M425 H425 U425 (fits_nar_char _) W425 3 rfl (Nat.le_of_ble_eq_true rfl)
        have C431 := C421.trans (CHr.wr W425 sf421_ad386 C421.1)
        have J431 := Nat.le_trans J421 (Nat.le_of_eq W425.size.symm)
        have sf431_ad386 := Safe.wr W425 sf421_ad386 C421.1 sf421_ad386
        have N425 := Fr.snoc X425 N424 o386
        have Z425 : n0 ≤ h425.size := (Nat.le_trans Z415 (Nat.le_of_eq W425.size.symm))
        have O425 : Old Z n0 h425 := O415.wr W425 o386
        refine own_sW T425 (mkF m 159 #[iv p0, iv p1, own_j p2, s_, rv ta, iv mo, iv 7, rv ad386, u_, u_, u_] []) st425 ?_
        refine own_sW T425 (mkF m 161 #[iv p0, iv p1, own_j p2, s_, rv ta, iv mo, iv 7, rv ad386, u_, u_, u_] [.int 7]) (fun t k => XS.iload X425.here hx rfl (hb hby at_159) rfl k) ?_
        refine own_sW T425 (mkF m 162 #[iv p0, iv p1, own_j p2, s_, rv ta, iv mo, iv 7, rv ad386, u_, u_, u_] [.int 4, .int 7]) (fun t k => XS.iconst X425.here hx rfl (hb hby at_161) k) ?_
        refine own_sW T425 (mkF m 165 #[iv p0, iv p1, own_j p2, s_, rv ta, iv mo, iv 7, rv ad386, u_, u_, u_] []) (fun t k => XS.icmpNo X425.here hx rfl (hb hby at_162) rfl (tlt (by decide : ((4 : Int32) < (7 : Int32)))).2.2.2 k) ?_
        refine own_sW T425 (mkF m 167 #[iv p0, iv p1, own_j p2, s_, rv ta, iv mo, iv 7, rv ad386, u_, u_, u_] [.ref ad386]) (fun t k => XS.aload X425.here hx rfl (hb hby at_165) rfl rfl k) ?_
        refine own_sW T425 (mkF m 168 #[iv p0, iv p1, own_j p2, s_, rv ta, iv mo, iv 7, rv ad386, u_, u_, u_] [.int 4, .ref ad386]) (fun t k => XS.iconst X425.here hx rfl (hb hby at_167) k) ?_
        refine own_sW T425 (mkF m 169 #[iv p0, iv p1, own_j p2, s_, rv ta, iv mo, iv 7, rv ad386, u_, u_, u_] [.int 4, .int 4, .ref ad386]) (fun t k => XS.iconst X425.here hx rfl (hb hby at_168) k) ?_
        refine own_sW T425 (mkF m 171 #[iv p0, iv p1, own_j p2, s_, rv ta, iv mo, iv 7, rv ad386, u_, u_, u_] [.ref ta, .int 4, .int 4, .ref ad386]) (fun t k => XS.aload X425.here hx rfl (hb hby at_169) rfl rfl k) ?_
        refine own_sW T425 (mkF m 172 #[iv p0, iv p1, own_j p2, s_, rv ta, iv mo, iv 7, rv ad386, u_, u_, u_] [.int p0, .ref ta, .int 4, .int 4, .ref ad386]) (fun t k => XS.iloadN X425.here hx rfl (hb hby at_171) rfl k) ?_
        refine own_sW T425 (mkF m 173 #[iv p0, iv p1, own_j p2, s_, rv ta, iv mo, iv 7, rv ad386, u_, u_, u_] [.long p2, .int p0, .ref ta, .int 4, .int 4, .ref ad386]) (fun t k => XS.lloadN X425.here hx rfl (hb hby at_172) rfl k) ?_
        obtain ⟨_, _, ⟨T434, L434, k434, n434⟩, -, X434, ⟨Lc434, hQ434, lq434, yq434, zq434⟩, st434⟩ := Jvm.LawKit.callS X425 hx (y := (⟨"com/example/umpire/umpire/xsts/ValidityOfPinLaw", "ch", "(ILjava/lang/String;IJ)C"⟩ : MethodName)) hown (mvT hZ (hW 22 _ rfl)) (mvT hZ (hW 23 _ rfl)) (mvT hZ (hW 24 _ rfl)) (mvT hZ (hW 25 _ rfl)) (by decide) (backOf (W := 2) (rm_ch l Z a0 hw [] ta tb tk tn tl (4 : Int32) p0 p2 fm ic h425 n0 Z425 g426 g427 g428 g429 O425 hfm S_f htf (by decide) S_c hic) hZ (hW 25 _ rfl) (hW 24 _ rfl) (by decide) (by decide)) (g := (mkF m 173 #[iv p0, iv p1, own_j p2, s_, rv ta, iv mo, iv 7, rv ad386, u_, u_, u_] [.long p2, .int p0, .ref ta, .int 4, .int 4, .ref ad386])) rfl (by rw [hml]; rfl) (argsL := [(.int (4 : Int32)), (.ref ta), (.int p0), (.long p2)]) (rest := [(.int (4 : Int32)), (.ref ad386)]) (lenOf pd_20 rfl) rfl (by show 2 * 0 + _ ≤ _; exact Nat.le_of_eq rfl) (hb hby at_173) (fun _ _ => ⟨rfl, e425, (by decide : 3 + 0 ≤ _), (by decide : 39 + 0 ≤ _)⟩)
        dsimp only [Pt.U, Pt.locs, Pt.cells, Pt.slots] at X434 lq434 yq434 zq434 st434 hQ434
        subst lq434 yq434 zq434
        obtain ⟨rfl, Nq434, eq433⟩ := hQ434
        have N434 := Fr.app N425 Nq434
        refine own_sW T434 (mkF m 176 #[iv p0, iv p1, own_j p2, s_, rv ta, iv mo, iv 7, rv ad386, u_, u_, u_] [.int (nar .char (own_chv tl tn p0 (4 : Int32) p2)), .int 4, .ref ad386]) st434 ?_
        have hb4 := own_c255 tl tn p0 (4 : Int32) p2
        revert hb4
        generalize (nar .char (own_chv tl tn p0 (4 : Int32) p2)) = c4
        intro hb4
        obtain ⟨cl435, Ar435, qa435, S435, M435, H435, U435⟩ := id g430
        obtain ⟨T435, h435, X435, e435, W435, st435⟩ := stC X434 hx hZ eq433 Ar435 (j := (4 : Int32)) (inb_of S435 ⟨by decide, by decide⟩) (g := (mkF m 176 #[iv p0, iv p1, own_j p2, s_, rv ta, iv mo, iv 7, rv ad386, u_, u_, u_] [.int c4, .int 4, .ref ad386])) rfl rfl (hb hby at_176)
        have g436 := g426.wr W435
        have g437 := g427.other W435 (Or.inl ne386_1)
        have g438 := g428.other W435 (Or.inl ne386_1)
        have g439 := g429.other W435 ne386_2
        have g440 : Arv Z h435 ad386 k386 .char (7 : Int32) [(.int (nar .char c0)), (.int (nar .char c1)), (.int (nar .char c2)), (.int (nar .char c3)), (.int (nar .char c4)), (.int (0 : Int32)), (.int (0 : Int32))] (.int (0 : Int32)) := Arv.set Ar435 qa435 S435 M435 H435 U435 (fits_nar_char _) W435 4 rfl (Nat.le_of_ble_eq_true rfl)
        have C441 := C431.trans (CHr.wr W435 sf431_ad386 C431.1)
        have J441 := Nat.le_trans J431 (Nat.le_of_eq W435.size.symm)
        have sf441_ad386 := Safe.wr W435 sf431_ad386 C431.1 sf431_ad386
        have N435 := Fr.snoc X435 N434 o386
        have Z435 : n0 ≤ h435.size := (Nat.le_trans Z425 (Nat.le_of_eq W435.size.symm))
        have O435 : Old Z n0 h435 := O425.wr W435 o386
        refine own_sW T435 (mkF m 177 #[iv p0, iv p1, own_j p2, s_, rv ta, iv mo, iv 7, rv ad386, u_, u_, u_] []) st435 ?_
        refine own_sW T435 (mkF m 179 #[iv p0, iv p1, own_j p2, s_, rv ta, iv mo, iv 7, rv ad386, u_, u_, u_] [.int 7]) (fun t k => XS.iload X435.here hx rfl (hb hby at_177) rfl k) ?_
        refine own_sW T435 (mkF m 180 #[iv p0, iv p1, own_j p2, s_, rv ta, iv mo, iv 7, rv ad386, u_, u_, u_] [.int 5, .int 7]) (fun t k => XS.iconst X435.here hx rfl (hb hby at_179) k) ?_
        refine own_sW T435 (mkF m 183 #[iv p0, iv p1, own_j p2, s_, rv ta, iv mo, iv 7, rv ad386, u_, u_, u_] []) (fun t k => XS.icmpNo X435.here hx rfl (hb hby at_180) rfl (tlt (by decide : ((5 : Int32) < (7 : Int32)))).2.2.2 k) ?_
        refine own_sW T435 (mkF m 185 #[iv p0, iv p1, own_j p2, s_, rv ta, iv mo, iv 7, rv ad386, u_, u_, u_] [.ref ad386]) (fun t k => XS.aload X435.here hx rfl (hb hby at_183) rfl rfl k) ?_
        refine own_sW T435 (mkF m 186 #[iv p0, iv p1, own_j p2, s_, rv ta, iv mo, iv 7, rv ad386, u_, u_, u_] [.int 5, .ref ad386]) (fun t k => XS.iconst X435.here hx rfl (hb hby at_185) k) ?_
        refine own_sW T435 (mkF m 187 #[iv p0, iv p1, own_j p2, s_, rv ta, iv mo, iv 7, rv ad386, u_, u_, u_] [.int 5, .int 5, .ref ad386]) (fun t k => XS.iconst X435.here hx rfl (hb hby at_186) k) ?_
        refine own_sW T435 (mkF m 189 #[iv p0, iv p1, own_j p2, s_, rv ta, iv mo, iv 7, rv ad386, u_, u_, u_] [.ref ta, .int 5, .int 5, .ref ad386]) (fun t k => XS.aload X435.here hx rfl (hb hby at_187) rfl rfl k) ?_
        refine own_sW T435 (mkF m 190 #[iv p0, iv p1, own_j p2, s_, rv ta, iv mo, iv 7, rv ad386, u_, u_, u_] [.int p0, .ref ta, .int 5, .int 5, .ref ad386]) (fun t k => XS.iloadN X435.here hx rfl (hb hby at_189) rfl k) ?_
        refine own_sW T435 (mkF m 191 #[iv p0, iv p1, own_j p2, s_, rv ta, iv mo, iv 7, rv ad386, u_, u_, u_] [.long p2, .int p0, .ref ta, .int 5, .int 5, .ref ad386]) (fun t k => XS.lloadN X435.here hx rfl (hb hby at_190) rfl k) ?_
        obtain ⟨_, _, ⟨T444, L444, k444, n444⟩, -, X444, ⟨Lc444, hQ444, lq444, yq444, zq444⟩, st444⟩ := Jvm.LawKit.callS X435 hx (y := (⟨"com/example/umpire/umpire/xsts/ValidityOfPinLaw", "ch", "(ILjava/lang/String;IJ)C"⟩ : MethodName)) hown (mvT hZ (hW 22 _ rfl)) (mvT hZ (hW 23 _ rfl)) (mvT hZ (hW 24 _ rfl)) (mvT hZ (hW 25 _ rfl)) (by decide) (backOf (W := 2) (rm_ch l Z a0 hw [] ta tb tk tn tl (5 : Int32) p0 p2 fm ic h435 n0 Z435 g436 g437 g438 g439 O435 hfm S_f htf (by decide) S_c hic) hZ (hW 25 _ rfl) (hW 24 _ rfl) (by decide) (by decide)) (g := (mkF m 191 #[iv p0, iv p1, own_j p2, s_, rv ta, iv mo, iv 7, rv ad386, u_, u_, u_] [.long p2, .int p0, .ref ta, .int 5, .int 5, .ref ad386])) rfl (by rw [hml]; rfl) (argsL := [(.int (5 : Int32)), (.ref ta), (.int p0), (.long p2)]) (rest := [(.int (5 : Int32)), (.ref ad386)]) (lenOf pd_20 rfl) rfl (by show 2 * 0 + _ ≤ _; exact Nat.le_of_eq rfl) (hb hby at_191) (fun _ _ => ⟨rfl, e435, (by decide : 3 + 0 ≤ _), (by decide : 39 + 0 ≤ _)⟩)
        dsimp only [Pt.U, Pt.locs, Pt.cells, Pt.slots] at X444 lq444 yq444 zq444 st444 hQ444
        subst lq444 yq444 zq444
        obtain ⟨rfl, Nq444, eq443⟩ := hQ444
        have N444 := Fr.app N435 Nq444
        refine own_sW T444 (mkF m 194 #[iv p0, iv p1, own_j p2, s_, rv ta, iv mo, iv 7, rv ad386, u_, u_, u_] [.int (nar .char (own_chv tl tn p0 (5 : Int32) p2)), .int 5, .ref ad386]) st444 ?_
        have hb5 := own_c255 tl tn p0 (5 : Int32) p2
        revert hb5
        generalize (nar .char (own_chv tl tn p0 (5 : Int32) p2)) = c5
        intro hb5
        obtain ⟨cl445, Ar445, qa445, S445, M445, H445, U445⟩ := id g440
        obtain ⟨T445, h445, X445, e445, W445, st445⟩ := stC X444 hx hZ eq443 Ar445 (j := (5 : Int32)) (inb_of S445 ⟨by decide, by decide⟩) (g := (mkF m 194 #[iv p0, iv p1, own_j p2, s_, rv ta, iv mo, iv 7, rv ad386, u_, u_, u_] [.int c5, .int 5, .ref ad386])) rfl rfl (hb hby at_194)
        have g446 := g436.wr W445
        have g447 := g437.other W445 (Or.inl ne386_1)
        have g448 := g438.other W445 (Or.inl ne386_1)
        have g449 := g439.other W445 ne386_2
        have g450 : Arv Z h445 ad386 k386 .char (7 : Int32) [(.int (nar .char c0)), (.int (nar .char c1)), (.int (nar .char c2)), (.int (nar .char c3)), (.int (nar .char c4)), (.int (nar .char c5)), (.int (0 : Int32))] (.int (0 : Int32)) := Arv.set Ar445 qa445 S445 M445 H445 U445 (fits_nar_char _) W445 5 rfl (Nat.le_of_ble_eq_true rfl)
        have C451 := C441.trans (CHr.wr W445 sf441_ad386 C441.1)
        have J451 := Nat.le_trans J441 (Nat.le_of_eq W445.size.symm)
        have sf451_ad386 := Safe.wr W445 sf441_ad386 C441.1 sf441_ad386
        have N445 := Fr.snoc X445 N444 o386
        have Z445 : n0 ≤ h445.size := (Nat.le_trans Z435 (Nat.le_of_eq W445.size.symm))
        have O445 : Old Z n0 h445 := O435.wr W445 o386
        refine own_sW T445 (mkF m 195 #[iv p0, iv p1, own_j p2, s_, rv ta, iv mo, iv 7, rv ad386, u_, u_, u_] []) st445 ?_
        refine own_sW T445 (mkF m 197 #[iv p0, iv p1, own_j p2, s_, rv ta, iv mo, iv 7, rv ad386, u_, u_, u_] [.int 7]) (fun t k => XS.iload X445.here hx rfl (hb hby at_195) rfl k) ?_
        refine own_sW T445 (mkF m 199 #[iv p0, iv p1, own_j p2, s_, rv ta, iv mo, iv 7, rv ad386, u_, u_, u_] [.int 6, .int 7]) (fun t k => XS.bipush X445.here hx rfl (hb hby at_197) k) ?_
        refine own_sW T445 (mkF m 202 #[iv p0, iv p1, own_j p2, s_, rv ta, iv mo, iv 7, rv ad386, u_, u_, u_] []) (fun t k => XS.icmpNo X445.here hx rfl (hb hby at_199) rfl (tlt (by decide : ((6 : Int32) < (7 : Int32)))).2.2.2 k) ?_
        refine own_sW T445 (mkF m 204 #[iv p0, iv p1, own_j p2, s_, rv ta, iv mo, iv 7, rv ad386, u_, u_, u_] [.ref ad386]) (fun t k => XS.aload X445.here hx rfl (hb hby at_202) rfl rfl k) ?_
        refine own_sW T445 (mkF m 206 #[iv p0, iv p1, own_j p2, s_, rv ta, iv mo, iv 7, rv ad386, u_, u_, u_] [.int 6, .ref ad386]) (fun t k => XS.bipush X445.here hx rfl (hb hby at_204) k) ?_
        refine own_sW T445 (mkF m 208 #[iv p0, iv p1, own_j p2, s_, rv ta, iv mo, iv 7, rv ad386, u_, u_, u_] [.int 6, .int 6, .ref ad386]) (fun t k => XS.bipush X445.here hx rfl (hb hby at_206) k) ?_
        refine own_sW T445 (mkF m 210 #[iv p0, iv p1, own_j p2, s_, rv ta, iv mo, iv 7, rv ad386, u_, u_, u_] [.ref ta, .int 6, .int 6, .ref ad386]) (fun t k => XS.aload X445.here hx rfl (hb hby at_208) rfl rfl k) ?_
        refine own_sW T445 (mkF m 211 #[iv p0, iv p1, own_j p2, s_, rv ta, iv mo, iv 7, rv ad386, u_, u_, u_] [.int p0, .ref ta, .int 6, .int 6, .ref ad386]) (fun t k => XS.iloadN X445.here hx rfl (hb hby at_210) rfl k) ?_
        refine own_sW T445 (mkF m 212 #[iv p0, iv p1, own_j p2, s_, rv ta, iv mo, iv 7, rv ad386, u_, u_, u_] [.long p2, .int p0, .ref ta, .int 6, .int 6, .ref ad386]) (fun t k => XS.lloadN X445.here hx rfl (hb hby at_211) rfl k) ?_
        obtain ⟨_, _, ⟨T454, L454, k454, n454⟩, -, X454, ⟨Lc454, hQ454, lq454, yq454, zq454⟩, st454⟩ := Jvm.LawKit.callS X445 hx (y := (⟨"com/example/umpire/umpire/xsts/ValidityOfPinLaw", "ch", "(ILjava/lang/String;IJ)C"⟩ : MethodName)) hown (mvT hZ (hW 22 _ rfl)) (mvT hZ (hW 23 _ rfl)) (mvT hZ (hW 24 _ rfl)) (mvT hZ (hW 25 _ rfl)) (by decide) (backOf (W := 2) (rm_ch l Z a0 hw [] ta tb tk tn tl (6 : Int32) p0 p2 fm ic h445 n0 Z445 g446 g447 g448 g449 O445 hfm S_f htf (by decide) S_c hic) hZ (hW 25 _ rfl) (hW 24 _ rfl) (by decide) (by decide)) (g := (mkF m 212 #[iv p0, iv p1, own_j p2, s_, rv ta, iv mo, iv 7, rv ad386, u_, u_, u_] [.long p2, .int p0, .ref ta, .int 6, .int 6, .ref ad386])) rfl (by rw [hml]; rfl) (argsL := [(.int (6 : Int32)), (.ref ta), (.int p0), (.long p2)]) (rest := [(.int (6 : Int32)), (.ref ad386)]) (lenOf pd_20 rfl) rfl (by show 2 * 0 + _ ≤ _; exact Nat.le_of_eq rfl) (hb hby at_212) (fun _ _ => ⟨rfl, e445, (by decide : 3 + 0 ≤ _), (by decide : 39 + 0 ≤ _)⟩)
        dsimp only [Pt.U, Pt.locs, Pt.cells, Pt.slots] at X454 lq454 yq454 zq454 st454 hQ454
        subst lq454 yq454 zq454
        obtain ⟨rfl, Nq454, eq453⟩ := hQ454
        have N454 := Fr.app N445 Nq454
        refine own_sW T454 (mkF m 215 #[iv p0, iv p1, own_j p2, s_, rv ta, iv mo, iv 7, rv ad386, u_, u_, u_] [.int (nar .char (own_chv tl tn p0 (6 : Int32) p2)), .int 6, .ref ad386]) st454 ?_
        have hb6 := own_c255 tl tn p0 (6 : Int32) p2
        revert hb6
        generalize (nar .char (own_chv tl tn p0 (6 : Int32) p2)) = c6
        intro hb6
        obtain ⟨cl455, Ar455, qa455, S455, M455, H455, U455⟩ := id g450
        obtain ⟨T455, h455, X455, e455, W455, st455⟩ := stC X454 hx hZ eq453 Ar455 (j := (6 : Int32)) (inb_of S455 ⟨by decide, by decide⟩) (g := (mkF m 215 #[iv p0, iv p1, own_j p2, s_, rv ta, iv mo, iv 7, rv ad386, u_, u_, u_] [.int c6, .int 6, .ref ad386])) rfl rfl (hb hby at_215)
        have g456 := g446.wr W455
        have g457 := g447.other W455 (Or.inl ne386_1)
        have g458 := g448.other W455 (Or.inl ne386_1)
        have g459 := g449.other W455 ne386_2
        have g460 : Arv Z h455 ad386 k386 .char (7 : Int32) [(.int (nar .char c0)), (.int (nar .char c1)), (.int (nar .char c2)), (.int (nar .char c3)), (.int (nar .char c4)), (.int (nar .char c5)), (.int (nar .char c6))] (.int (0 : Int32)) := Arv.set Ar455 qa455 S455 M455 H455 U455 (fits_nar_char _) W455 6 rfl (Nat.le_of_ble_eq_true rfl)
        have C461 := C451.trans (CHr.wr W455 sf451_ad386 C451.1)
        have J461 := Nat.le_trans J451 (Nat.le_of_eq W455.size.symm)
        have sf461_ad386 := Safe.wr W455 sf451_ad386 C451.1 sf451_ad386
        have N455 := Fr.snoc X455 N454 o386
        have Z455 : n0 ≤ h455.size := (Nat.le_trans Z445 (Nat.le_of_eq W455.size.symm))
        have O455 : Old Z n0 h455 := O445.wr W455 o386
        refine own_sW T455 (mkF m 216 #[iv p0, iv p1, own_j p2, s_, rv ta, iv mo, iv 7, rv ad386, u_, u_, u_] []) st455 ?_
        refine own_sW T455 (mkF m 218 #[iv p0, iv p1, own_j p2, s_, rv ta, iv mo, iv 7, rv ad386, u_, u_, u_] [.int 7]) (fun t k => XS.iload X455.here hx rfl (hb hby at_216) rfl k) ?_
        refine own_sW T455 (mkF m 220 #[iv p0, iv p1, own_j p2, s_, rv ta, iv mo, iv 7, rv ad386, u_, u_, u_] [.int 7, .int 7]) (fun t k => XS.bipush X455.here hx rfl (hb hby at_218) k) ?_
        refine own_sW T455 (mkF m 237 #[iv p0, iv p1, own_j p2, s_, rv ta, iv mo, iv 7, rv ad386, u_, u_, u_] []) (fun t k => XS.icmpYes X455.here hx rfl (pc0 := 220) (pc' := 237) rfl (hb hby at_220) rfl (flt (by decide : ¬ ((7 : Int32) < (7 : Int32)))).2.2.2 (by decide) (by decide) k) ?_
        exact j237 ad386 k386 (7 : Int32) [(.int (nar .char c0)), (.int (nar .char c1)), (.int (nar .char c2)), (.int (nar .char c3)), (.int (nar .char c4)), (.int (nar .char c5)), (.int (nar .char c6))] (7 : Int32) _ _ T455 h455 _ (X455.mono (by decide) (by decide)) hZ hown e455 N455 Z455 SH13 J461 C461 O455 g460 sf461_ad386 o386 (Or.inr (Or.inr (Or.inr (Or.inr (Or.inr (Or.inr (Or.inl ⟨_, _, _, _, _, _, _, rfl, rfl, hb0, hb1, hb2, hb3, hb4, hb5, hb6⟩)))))))
      · refine own_sW TJ82 (mkF m 84 #[iv p0, iv p1, own_j p2, s_, rv ta, iv mo, iv 8, u_, u_, u_, u_] [.int 8]) (fun t k => XS.iload XJ82.here hx rfl (hb hby at_82) rfl k) ?_
        obtain ⟨T462, h462, k462, X462, e462, E462, A462, st462⟩ := newP XJ82 hx hZ (hW 21 _ rfl) eJ82 (g := (mkF m 84 #[iv p0, iv p1, own_j p2, s_, rv ta, iv mo, iv 8, u_, u_, u_, u_] [.int 8])) rfl (hb hby at_84) rfl (by decide) (cap := 8) (by decide) (by decide) (by decide : 2 + 1 ≤ _) (by decide : 32 + 8 ≤ _)
        obtain ⟨ad462, g_ad462⟩ : ∃ z, z = hH13.size := ⟨_, rfl⟩
        rw [← g_ad462] at A462 st462
        have g463 := f0H13.ext E462
        have g464 := f1H13.ext E462
        have g465 := f2H13.ext E462
        have g466 := f3H13.ext E462
        have ne462_1 : ta ≠ ad462 := Nat.ne_of_lt (by rw [g_ad462]; exact f0H13.lt)
        have ne462_2 : tb ≠ ad462 := Nat.ne_of_lt (by rw [g_ad462]; exact f3H13.lt)
        have o462 : n0 ≤ ad462 := (Nat.le_trans ZH13 (Nat.le_of_eq g_ad462.symm))
        have Z462 : n0 ≤ h462.size := (Nat.le_trans ZH13 E462.1)
        have O462 : Old Z n0 h462 := OH13.ext E462
        have C467 := CH13.trans (CHr.ext E462 CH13.1)
        have J467 := Nat.le_trans JH13 E462.1
        have sf467_ad462 : Safe Z own_EL _ h462 ad462 := Safe.ext E462 CH13.1 (Safe.new (Nat.le_of_eq g_ad462.symm))
        have V462 : Arv Z h462 ad462 k462 .char (8 : Int32) [(.int (0 : Int32)), (.int (0 : Int32)), (.int (0 : Int32)), (.int (0 : Int32)), (.int (0 : Int32)), (.int (0 : Int32)), (.int (0 : Int32)), (.int (0 : Int32))] (.int (0 : Int32)) := (Arv.new A462 (by decide)).pad (pad_rep [] (.int (0 : Int32)) 8)
        refine own_sW T462 (mkF m 86 #[iv p0, iv p1, own_j p2, s_, rv ta, iv mo, iv 8, u_, u_, u_, u_] [.ref ad462]) st462 ?_
        refine own_sW T462 (mkF m 88 #[iv p0, iv p1, own_j p2, s_, rv ta, iv mo, iv 8, rv ad462, u_, u_, u_] []) (fun t k => XS.astore X462.here hx rfl (hb hby at_86) rfl rfl (l' := #[iv p0, iv p1, own_j p2, s_, rv ta, iv mo, iv 8, rv ad462, u_, u_, u_]) rfl k) ?_
        refine own_sW T462 (mkF m 90 #[iv p0, iv p1, own_j p2, s_, rv ta, iv mo, iv 8, rv ad462, u_, u_, u_] [.int 8]) (fun t k => XS.iload X462.here hx rfl (hb hby at_88) rfl k) ?_
        refine own_sW T462 (mkF m 93 #[iv p0, iv p1, own_j p2, s_, rv ta, iv mo, iv 8, rv ad462, u_, u_, u_] []) (fun t k => XS.ifNo X462.here hx rfl (hb hby at_90) rfl ((if0 _ _).trans (tlt (by decide : ((0 : Int32) < (8 : Int32)))).2.2.2) k) ?_
        refine own_sW T462 (mkF m 95 #[iv p0, iv p1, own_j p2, s_, rv ta, iv mo, iv 8, rv ad462, u_, u_, u_] [.ref ad462]) (fun t k => XS.aload X462.here hx rfl (hb hby at_93) rfl rfl k) ?_
        refine own_sW T462 (mkF m 96 #[iv p0, iv p1, own_j p2, s_, rv ta, iv mo, iv 8, rv ad462, u_, u_, u_] [.int 0, .ref ad462]) (fun t k => XS.iconst X462.here hx rfl (hb hby at_95) k) ?_
        refine own_sW T462 (mkF m 97 #[iv p0, iv p1, own_j p2, s_, rv ta, iv mo, iv 8, rv ad462, u_, u_, u_] [.int 0, .int 0, .ref ad462]) (fun t k => XS.iconst X462.here hx rfl (hb hby at_96) k) ?_
        refine own_sW T462 (mkF m 99 #[iv p0, iv p1, own_j p2, s_, rv ta, iv mo, iv 8, rv ad462, u_, u_, u_] [.ref ta, .int 0, .int 0, .ref ad462]) (fun t k => XS.aload X462.here hx rfl (hb hby at_97) rfl rfl k) ?_
        refine own_sW T462 (mkF m 100 #[iv p0, iv p1, own_j p2, s_, rv ta, iv mo, iv 8, rv ad462, u_, u_, u_] [.int p0, .ref ta, .int 0, .int 0, .ref ad462]) (fun t k => XS.iloadN X462.here hx rfl (hb hby at_99) rfl k) ?_
        refine own_sW T462 (mkF m 101 #[iv p0, iv p1, own_j p2, s_, rv ta, iv mo, iv 8, rv ad462, u_, u_, u_] [.long p2, .int p0, .ref ta, .int 0, .int 0, .ref ad462]) (fun t k => XS.lloadN X462.here hx rfl (hb hby at_100) rfl k) ?_
        obtain ⟨_, _, ⟨T470, L470, k470, n470⟩, -, X470, ⟨Lc470, hQ470, lq470, yq470, zq470⟩, st470⟩ := Jvm.LawKit.callS X462 hx (y := (⟨"com/example/umpire/umpire/xsts/ValidityOfPinLaw", "ch", "(ILjava/lang/String;IJ)C"⟩ : MethodName)) hown (mvT hZ (hW 22 _ rfl)) (mvT hZ (hW 23 _ rfl)) (mvT hZ (hW 24 _ rfl)) (mvT hZ (hW 25 _ rfl)) (by decide) (backOf (W := 2) (rm_ch l Z a0 hw [] ta tb tk tn tl (0 : Int32) p0 p2 fm ic h462 n0 Z462 g463 g464 g465 g466 O462 hfm S_f htf (by decide) S_c hic) hZ (hW 25 _ rfl) (hW 24 _ rfl) (by decide) (by decide)) (g := (mkF m 101 #[iv p0, iv p1, own_j p2, s_, rv ta, iv mo, iv 8, rv ad462, u_, u_, u_] [.long p2, .int p0, .ref ta, .int 0, .int 0, .ref ad462])) rfl (by rw [hml]; rfl) (argsL := [(.int (0 : Int32)), (.ref ta), (.int p0), (.long p2)]) (rest := [(.int (0 : Int32)), (.ref ad462)]) (lenOf pd_20 rfl) rfl (by show 2 * 0 + _ ≤ _; exact Nat.le_of_eq rfl) (hb hby at_101) (fun _ _ => ⟨rfl, e462, (by decide : 3 + 0 ≤ _), (by decide : 40 + 0 ≤ _)⟩)
        dsimp only [Pt.U, Pt.locs, Pt.cells, Pt.slots] at X470 lq470 yq470 zq470 st470 hQ470
        subst lq470 yq470 zq470
        obtain ⟨rfl, Nq470, eq469⟩ := hQ470
        have N470 := Fr.app NJ82 Nq470
        refine own_sW T470 (mkF m 104 #[iv p0, iv p1, own_j p2, s_, rv ta, iv mo, iv 8, rv ad462, u_, u_, u_] [.int (nar .char (own_chv tl tn p0 (0 : Int32) p2)), .int 0, .ref ad462]) st470 ?_
        have hb0 := own_c255 tl tn p0 (0 : Int32) p2
        revert hb0
        generalize (nar .char (own_chv tl tn p0 (0 : Int32) p2)) = c0
        intro hb0
        obtain ⟨cl471, Ar471, qa471, S471, M471, H471, U471⟩ := id V462
        obtain ⟨T471, h471, X471, e471, W471, st471⟩ := stC X470 hx hZ eq469 Ar471 (j := (0 : Int32)) (inb_of S471 ⟨by decide, by decide⟩) (g := (mkF m 104 #[iv p0, iv p1, own_j p2, s_, rv ta, iv mo, iv 8, rv ad462, u_, u_, u_] [.int c0, .int 0, .ref ad462])) rfl rfl (hb hby at_104)
        have g472 := g463.wr W471
        have g473 := g464.other W471 (Or.inl ne462_1)
        have g474 := g465.other W471 (Or.inl ne462_1)
        have g475 := g466.other W471 ne462_2
        have g476 : Arv Z h471 ad462 k462 .char (8 : Int32) [(.int (nar .char c0)), (.int (0 : Int32)), (.int (0 : Int32)), (.int (0 : Int32)), (.int (0 : Int32)), (.int (0 : Int32)), (.int (0 : Int32)), (.int (0 : Int32))] (.int (0 : Int32)) := Arv.set Ar471 qa471 S471 M471 H471 U471 (fits_nar_char _) W471 0 rfl (Nat.le_of_ble_eq_true rfl)
        have C477 := C467.trans (CHr.wr W471 sf467_ad462 C467.1)
        have J477 := Nat.le_trans J467 (Nat.le_of_eq W471.size.symm)
        have sf477_ad462 := Safe.wr W471 sf467_ad462 C467.1 sf467_ad462
        have N471 := Fr.snoc X471 N470 o462
        have Z471 : n0 ≤ h471.size := (Nat.le_trans Z462 (Nat.le_of_eq W471.size.symm))
        have O471 : Old Z n0 h471 := O462.wr W471 o462
        refine own_sW T471 (mkF m 105 #[iv p0, iv p1, own_j p2, s_, rv ta, iv mo, iv 8, rv ad462, u_, u_, u_] []) st471 ?_
        refine own_sW T471 (mkF m 107 #[iv p0, iv p1, own_j p2, s_, rv ta, iv mo, iv 8, rv ad462, u_, u_, u_] [.int 8]) (fun t k => XS.iload X471.here hx rfl (hb hby at_105) rfl k) ?_
        refine own_sW T471 (mkF m 108 #[iv p0, iv p1, own_j p2, s_, rv ta, iv mo, iv 8, rv ad462, u_, u_, u_] [.int 1, .int 8]) (fun t k => XS.iconst X471.here hx rfl (hb hby at_107) k) ?_
        refine own_sW T471 (mkF m 111 #[iv p0, iv p1, own_j p2, s_, rv ta, iv mo, iv 8, rv ad462, u_, u_, u_] []) (fun t k => XS.icmpNo X471.here hx rfl (hb hby at_108) rfl (tlt (by decide : ((1 : Int32) < (8 : Int32)))).2.2.2 k) ?_
        refine own_sW T471 (mkF m 113 #[iv p0, iv p1, own_j p2, s_, rv ta, iv mo, iv 8, rv ad462, u_, u_, u_] [.ref ad462]) (fun t k => XS.aload X471.here hx rfl (hb hby at_111) rfl rfl k) ?_
        refine own_sW T471 (mkF m 114 #[iv p0, iv p1, own_j p2, s_, rv ta, iv mo, iv 8, rv ad462, u_, u_, u_] [.int 1, .ref ad462]) (fun t k => XS.iconst X471.here hx rfl (hb hby at_113) k) ?_
        refine own_sW T471 (mkF m 115 #[iv p0, iv p1, own_j p2, s_, rv ta, iv mo, iv 8, rv ad462, u_, u_, u_] [.int 1, .int 1, .ref ad462]) (fun t k => XS.iconst X471.here hx rfl (hb hby at_114) k) ?_
        refine own_sW T471 (mkF m 117 #[iv p0, iv p1, own_j p2, s_, rv ta, iv mo, iv 8, rv ad462, u_, u_, u_] [.ref ta, .int 1, .int 1, .ref ad462]) (fun t k => XS.aload X471.here hx rfl (hb hby at_115) rfl rfl k) ?_
        refine own_sW T471 (mkF m 118 #[iv p0, iv p1, own_j p2, s_, rv ta, iv mo, iv 8, rv ad462, u_, u_, u_] [.int p0, .ref ta, .int 1, .int 1, .ref ad462]) (fun t k => XS.iloadN X471.here hx rfl (hb hby at_117) rfl k) ?_
        refine own_sW T471 (mkF m 119 #[iv p0, iv p1, own_j p2, s_, rv ta, iv mo, iv 8, rv ad462, u_, u_, u_] [.long p2, .int p0, .ref ta, .int 1, .int 1, .ref ad462]) (fun t k => XS.lloadN X471.here hx rfl (hb hby at_118) rfl k) ?_
        obtain ⟨_, _, ⟨T480, L480, k480, n480⟩, -, X480, ⟨Lc480, hQ480, lq480, yq480, zq480⟩, st480⟩ := Jvm.LawKit.callS X471 hx (y := (⟨"com/example/umpire/umpire/xsts/ValidityOfPinLaw", "ch", "(ILjava/lang/String;IJ)C"⟩ : MethodName)) hown (mvT hZ (hW 22 _ rfl)) (mvT hZ (hW 23 _ rfl)) (mvT hZ (hW 24 _ rfl)) (mvT hZ (hW 25 _ rfl)) (by decide) (backOf (W := 2) (rm_ch l Z a0 hw [] ta tb tk tn tl (1 : Int32) p0 p2 fm ic h471 n0 Z471 g472 g473 g474 g475 O471 hfm S_f htf (by decide) S_c hic) hZ (hW 25 _ rfl) (hW 24 _ rfl) (by decide) (by decide)) (g := (mkF m 119 #[iv p0, iv p1, own_j p2, s_, rv ta, iv mo, iv 8, rv ad462, u_, u_, u_] [.long p2, .int p0, .ref ta, .int 1, .int 1, .ref ad462])) rfl (by rw [hml]; rfl) (argsL := [(.int (1 : Int32)), (.ref ta), (.int p0), (.long p2)]) (rest := [(.int (1 : Int32)), (.ref ad462)]) (lenOf pd_20 rfl) rfl (by show 2 * 0 + _ ≤ _; exact Nat.le_of_eq rfl) (hb hby at_119) (fun _ _ => ⟨rfl, e471, (by decide : 3 + 0 ≤ _), (by decide : 40 + 0 ≤ _)⟩)
        dsimp only [Pt.U, Pt.locs, Pt.cells, Pt.slots] at X480 lq480 yq480 zq480 st480 hQ480
        subst lq480 yq480 zq480
        obtain ⟨rfl, Nq480, eq479⟩ := hQ480
        have N480 := Fr.app N471 Nq480
        refine own_sW T480 (mkF m 122 #[iv p0, iv p1, own_j p2, s_, rv ta, iv mo, iv 8, rv ad462, u_, u_, u_] [.int (nar .char (own_chv tl tn p0 (1 : Int32) p2)), .int 1, .ref ad462]) st480 ?_
        have hb1 := own_c255 tl tn p0 (1 : Int32) p2
        revert hb1
        generalize (nar .char (own_chv tl tn p0 (1 : Int32) p2)) = c1
        intro hb1
        obtain ⟨cl481, Ar481, qa481, S481, M481, H481, U481⟩ := id g476
        obtain ⟨T481, h481, X481, e481, W481, st481⟩ := stC X480 hx hZ eq479 Ar481 (j := (1 : Int32)) (inb_of S481 ⟨by decide, by decide⟩) (g := (mkF m 122 #[iv p0, iv p1, own_j p2, s_, rv ta, iv mo, iv 8, rv ad462, u_, u_, u_] [.int c1, .int 1, .ref ad462])) rfl rfl (hb hby at_122)
        have g482 := g472.wr W481
        have g483 := g473.other W481 (Or.inl ne462_1)
        have g484 := g474.other W481 (Or.inl ne462_1)
        have g485 := g475.other W481 ne462_2
        have g486 : Arv Z h481 ad462 k462 .char (8 : Int32) [(.int (nar .char c0)), (.int (nar .char c1)), (.int (0 : Int32)), (.int (0 : Int32)), (.int (0 : Int32)), (.int (0 : Int32)), (.int (0 : Int32)), (.int (0 : Int32))] (.int (0 : Int32)) := Arv.set Ar481 qa481 S481 M481 H481 U481 (fits_nar_char _) W481 1 rfl (Nat.le_of_ble_eq_true rfl)
        have C487 := C477.trans (CHr.wr W481 sf477_ad462 C477.1)
        have J487 := Nat.le_trans J477 (Nat.le_of_eq W481.size.symm)
        have sf487_ad462 := Safe.wr W481 sf477_ad462 C477.1 sf477_ad462
        have N481 := Fr.snoc X481 N480 o462
        have Z481 : n0 ≤ h481.size := (Nat.le_trans Z471 (Nat.le_of_eq W481.size.symm))
        have O481 : Old Z n0 h481 := O471.wr W481 o462
        refine own_sW T481 (mkF m 123 #[iv p0, iv p1, own_j p2, s_, rv ta, iv mo, iv 8, rv ad462, u_, u_, u_] []) st481 ?_
        refine own_sW T481 (mkF m 125 #[iv p0, iv p1, own_j p2, s_, rv ta, iv mo, iv 8, rv ad462, u_, u_, u_] [.int 8]) (fun t k => XS.iload X481.here hx rfl (hb hby at_123) rfl k) ?_
        refine own_sW T481 (mkF m 126 #[iv p0, iv p1, own_j p2, s_, rv ta, iv mo, iv 8, rv ad462, u_, u_, u_] [.int 2, .int 8]) (fun t k => XS.iconst X481.here hx rfl (hb hby at_125) k) ?_
        refine own_sW T481 (mkF m 129 #[iv p0, iv p1, own_j p2, s_, rv ta, iv mo, iv 8, rv ad462, u_, u_, u_] []) (fun t k => XS.icmpNo X481.here hx rfl (hb hby at_126) rfl (tlt (by decide : ((2 : Int32) < (8 : Int32)))).2.2.2 k) ?_
        refine own_sW T481 (mkF m 131 #[iv p0, iv p1, own_j p2, s_, rv ta, iv mo, iv 8, rv ad462, u_, u_, u_] [.ref ad462]) (fun t k => XS.aload X481.here hx rfl (hb hby at_129) rfl rfl k) ?_
        refine own_sW T481 (mkF m 132 #[iv p0, iv p1, own_j p2, s_, rv ta, iv mo, iv 8, rv ad462, u_, u_, u_] [.int 2, .ref ad462]) (fun t k => XS.iconst X481.here hx rfl (hb hby at_131) k) ?_
        refine own_sW T481 (mkF m 133 #[iv p0, iv p1, own_j p2, s_, rv ta, iv mo, iv 8, rv ad462, u_, u_, u_] [.int 2, .int 2, .ref ad462]) (fun t k => XS.iconst X481.here hx rfl (hb hby at_132) k) ?_
        refine own_sW T481 (mkF m 135 #[iv p0, iv p1, own_j p2, s_, rv ta, iv mo, iv 8, rv ad462, u_, u_, u_] [.ref ta, .int 2, .int 2, .ref ad462]) (fun t k => XS.aload X481.here hx rfl (hb hby at_133) rfl rfl k) ?_
        refine own_sW T481 (mkF m 136 #[iv p0, iv p1, own_j p2, s_, rv ta, iv mo, iv 8, rv ad462, u_, u_, u_] [.int p0, .ref ta, .int 2, .int 2, .ref ad462]) (fun t k => XS.iloadN X481.here hx rfl (hb hby at_135) rfl k) ?_
        refine own_sW T481 (mkF m 137 #[iv p0, iv p1, own_j p2, s_, rv ta, iv mo, iv 8, rv ad462, u_, u_, u_] [.long p2, .int p0, .ref ta, .int 2, .int 2, .ref ad462]) (fun t k => XS.lloadN X481.here hx rfl (hb hby at_136) rfl k) ?_
        obtain ⟨_, _, ⟨T490, L490, k490, n490⟩, -, X490, ⟨Lc490, hQ490, lq490, yq490, zq490⟩, st490⟩ := Jvm.LawKit.callS X481 hx (y := (⟨"com/example/umpire/umpire/xsts/ValidityOfPinLaw", "ch", "(ILjava/lang/String;IJ)C"⟩ : MethodName)) hown (mvT hZ (hW 22 _ rfl)) (mvT hZ (hW 23 _ rfl)) (mvT hZ (hW 24 _ rfl)) (mvT hZ (hW 25 _ rfl)) (by decide) (backOf (W := 2) (rm_ch l Z a0 hw [] ta tb tk tn tl (2 : Int32) p0 p2 fm ic h481 n0 Z481 g482 g483 g484 g485 O481 hfm S_f htf (by decide) S_c hic) hZ (hW 25 _ rfl) (hW 24 _ rfl) (by decide) (by decide)) (g := (mkF m 137 #[iv p0, iv p1, own_j p2, s_, rv ta, iv mo, iv 8, rv ad462, u_, u_, u_] [.long p2, .int p0, .ref ta, .int 2, .int 2, .ref ad462])) rfl (by rw [hml]; rfl) (argsL := [(.int (2 : Int32)), (.ref ta), (.int p0), (.long p2)]) (rest := [(.int (2 : Int32)), (.ref ad462)]) (lenOf pd_20 rfl) rfl (by show 2 * 0 + _ ≤ _; exact Nat.le_of_eq rfl) (hb hby at_137) (fun _ _ => ⟨rfl, e481, (by decide : 3 + 0 ≤ _), (by decide : 40 + 0 ≤ _)⟩)
        dsimp only [Pt.U, Pt.locs, Pt.cells, Pt.slots] at X490 lq490 yq490 zq490 st490 hQ490
        subst lq490 yq490 zq490
        obtain ⟨rfl, Nq490, eq489⟩ := hQ490
        have N490 := Fr.app N481 Nq490
        refine own_sW T490 (mkF m 140 #[iv p0, iv p1, own_j p2, s_, rv ta, iv mo, iv 8, rv ad462, u_, u_, u_] [.int (nar .char (own_chv tl tn p0 (2 : Int32) p2)), .int 2, .ref ad462]) st490 ?_
        have hb2 := own_c255 tl tn p0 (2 : Int32) p2
        revert hb2
        generalize (nar .char (own_chv tl tn p0 (2 : Int32) p2)) = c2
        intro hb2
        obtain ⟨cl491, Ar491, qa491, S491, M491, H491, U491⟩ := id g486
        obtain ⟨T491, h491, X491, e491, W491, st491⟩ := stC X490 hx hZ eq489 Ar491 (j := (2 : Int32)) (inb_of S491 ⟨by decide, by decide⟩) (g := (mkF m 140 #[iv p0, iv p1, own_j p2, s_, rv ta, iv mo, iv 8, rv ad462, u_, u_, u_] [.int c2, .int 2, .ref ad462])) rfl rfl (hb hby at_140)
        have g492 := g482.wr W491
        have g493 := g483.other W491 (Or.inl ne462_1)
        have g494 := g484.other W491 (Or.inl ne462_1)
        have g495 := g485.other W491 ne462_2
        have g496 : Arv Z h491 ad462 k462 .char (8 : Int32) [(.int (nar .char c0)), (.int (nar .char c1)), (.int (nar .char c2)), (.int (0 : Int32)), (.int (0 : Int32)), (.int (0 : Int32)), (.int (0 : Int32)), (.int (0 : Int32))] (.int (0 : Int32)) := Arv.set Ar491 qa491 S491 M491 H491 U491 (fits_nar_char _) W491 2 rfl (Nat.le_of_ble_eq_true rfl)
        have C497 := C487.trans (CHr.wr W491 sf487_ad462 C487.1)
        have J497 := Nat.le_trans J487 (Nat.le_of_eq W491.size.symm)
        have sf497_ad462 := Safe.wr W491 sf487_ad462 C487.1 sf487_ad462
        have N491 := Fr.snoc X491 N490 o462
        have Z491 : n0 ≤ h491.size := (Nat.le_trans Z481 (Nat.le_of_eq W491.size.symm))
        have O491 : Old Z n0 h491 := O481.wr W491 o462
        refine own_sW T491 (mkF m 141 #[iv p0, iv p1, own_j p2, s_, rv ta, iv mo, iv 8, rv ad462, u_, u_, u_] []) st491 ?_
        refine own_sW T491 (mkF m 143 #[iv p0, iv p1, own_j p2, s_, rv ta, iv mo, iv 8, rv ad462, u_, u_, u_] [.int 8]) (fun t k => XS.iload X491.here hx rfl (hb hby at_141) rfl k) ?_
        refine own_sW T491 (mkF m 144 #[iv p0, iv p1, own_j p2, s_, rv ta, iv mo, iv 8, rv ad462, u_, u_, u_] [.int 3, .int 8]) (fun t k => XS.iconst X491.here hx rfl (hb hby at_143) k) ?_
        refine own_sW T491 (mkF m 147 #[iv p0, iv p1, own_j p2, s_, rv ta, iv mo, iv 8, rv ad462, u_, u_, u_] []) (fun t k => XS.icmpNo X491.here hx rfl (hb hby at_144) rfl (tlt (by decide : ((3 : Int32) < (8 : Int32)))).2.2.2 k) ?_
        refine own_sW T491 (mkF m 149 #[iv p0, iv p1, own_j p2, s_, rv ta, iv mo, iv 8, rv ad462, u_, u_, u_] [.ref ad462]) (fun t k => XS.aload X491.here hx rfl (hb hby at_147) rfl rfl k) ?_
        refine own_sW T491 (mkF m 150 #[iv p0, iv p1, own_j p2, s_, rv ta, iv mo, iv 8, rv ad462, u_, u_, u_] [.int 3, .ref ad462]) (fun t k => XS.iconst X491.here hx rfl (hb hby at_149) k) ?_
        refine own_sW T491 (mkF m 151 #[iv p0, iv p1, own_j p2, s_, rv ta, iv mo, iv 8, rv ad462, u_, u_, u_] [.int 3, .int 3, .ref ad462]) (fun t k => XS.iconst X491.here hx rfl (hb hby at_150) k) ?_
        refine own_sW T491 (mkF m 153 #[iv p0, iv p1, own_j p2, s_, rv ta, iv mo, iv 8, rv ad462, u_, u_, u_] [.ref ta, .int 3, .int 3, .ref ad462]) (fun t k => XS.aload X491.here hx rfl (hb hby at_151) rfl rfl k) ?_
        refine own_sW T491 (mkF m 154 #[iv p0, iv p1, own_j p2, s_, rv ta, iv mo, iv 8, rv ad462, u_, u_, u_] [.int p0, .ref ta, .int 3, .int 3, .ref ad462]) (fun t k => XS.iloadN X491.here hx rfl (hb hby at_153) rfl k) ?_
        refine own_sW T491 (mkF m 155 #[iv p0, iv p1, own_j p2, s_, rv ta, iv mo, iv 8, rv ad462, u_, u_, u_] [.long p2, .int p0, .ref ta, .int 3, .int 3, .ref ad462]) (fun t k => XS.lloadN X491.here hx rfl (hb hby at_154) rfl k) ?_
        obtain ⟨_, _, ⟨T500, L500, k500, n500⟩, -, X500, ⟨Lc500, hQ500, lq500, yq500, zq500⟩, st500⟩ := Jvm.LawKit.callS X491 hx (y := (⟨"com/example/umpire/umpire/xsts/ValidityOfPinLaw", "ch", "(ILjava/lang/String;IJ)C"⟩ : MethodName)) hown (mvT hZ (hW 22 _ rfl)) (mvT hZ (hW 23 _ rfl)) (mvT hZ (hW 24 _ rfl)) (mvT hZ (hW 25 _ rfl)) (by decide) (backOf (W := 2) (rm_ch l Z a0 hw [] ta tb tk tn tl (3 : Int32) p0 p2 fm ic h491 n0 Z491 g492 g493 g494 g495 O491 hfm S_f htf (by decide) S_c hic) hZ (hW 25 _ rfl) (hW 24 _ rfl) (by decide) (by decide)) (g := (mkF m 155 #[iv p0, iv p1, own_j p2, s_, rv ta, iv mo, iv 8, rv ad462, u_, u_, u_] [.long p2, .int p0, .ref ta, .int 3, .int 3, .ref ad462])) rfl (by rw [hml]; rfl) (argsL := [(.int (3 : Int32)), (.ref ta), (.int p0), (.long p2)]) (rest := [(.int (3 : Int32)), (.ref ad462)]) (lenOf pd_20 rfl) rfl (by show 2 * 0 + _ ≤ _; exact Nat.le_of_eq rfl) (hb hby at_155) (fun _ _ => ⟨rfl, e491, (by decide : 3 + 0 ≤ _), (by decide : 40 + 0 ≤ _)⟩)
        dsimp only [Pt.U, Pt.locs, Pt.cells, Pt.slots] at X500 lq500 yq500 zq500 st500 hQ500
        subst lq500 yq500 zq500
        obtain ⟨rfl, Nq500, eq499⟩ := hQ500
        have N500 := Fr.app N491 Nq500
        refine own_sW T500 (mkF m 158 #[iv p0, iv p1, own_j p2, s_, rv ta, iv mo, iv 8, rv ad462, u_, u_, u_] [.int (nar .char (own_chv tl tn p0 (3 : Int32) p2)), .int 3, .ref ad462]) st500 ?_
        have hb3 := own_c255 tl tn p0 (3 : Int32) p2
        revert hb3
        generalize (nar .char (own_chv tl tn p0 (3 : Int32) p2)) = c3
        intro hb3
        obtain ⟨cl501, Ar501, qa501, S501, M501, H501, U501⟩ := id g496
        obtain ⟨T501, h501, X501, e501, W501, st501⟩ := stC X500 hx hZ eq499 Ar501 (j := (3 : Int32)) (inb_of S501 ⟨by decide, by decide⟩) (g := (mkF m 158 #[iv p0, iv p1, own_j p2, s_, rv ta, iv mo, iv 8, rv ad462, u_, u_, u_] [.int c3, .int 3, .ref ad462])) rfl rfl (hb hby at_158)
        have g502 := g492.wr W501
        have g503 := g493.other W501 (Or.inl ne462_1)
        have g504 := g494.other W501 (Or.inl ne462_1)
        have g505 := g495.other W501 ne462_2
        have g506 : Arv Z h501 ad462 k462 .char (8 : Int32) [(.int (nar .char c0)), (.int (nar .char c1)), (.int (nar .char c2)), (.int (nar .char c3)), (.int (0 : Int32)), (.int (0 : Int32)), (.int (0 : Int32)), (.int (0 : Int32))] (.int (0 : Int32)) := Arv.set Ar501 qa501 S501 M501 H501 U501 (fits_nar_char _) W501 3 rfl (Nat.le_of_ble_eq_true rfl)
        have C507 := C497.trans (CHr.wr W501 sf497_ad462 C497.1)
        have J507 := Nat.le_trans J497 (Nat.le_of_eq W501.size.symm)
        have sf507_ad462 := Safe.wr W501 sf497_ad462 C497.1 sf497_ad462
        have N501 := Fr.snoc X501 N500 o462
        have Z501 : n0 ≤ h501.size := (Nat.le_trans Z491 (Nat.le_of_eq W501.size.symm))
        have O501 : Old Z n0 h501 := O491.wr W501 o462
        refine own_sW T501 (mkF m 159 #[iv p0, iv p1, own_j p2, s_, rv ta, iv mo, iv 8, rv ad462, u_, u_, u_] []) st501 ?_
        refine own_sW T501 (mkF m 161 #[iv p0, iv p1, own_j p2, s_, rv ta, iv mo, iv 8, rv ad462, u_, u_, u_] [.int 8]) (fun t k => XS.iload X501.here hx rfl (hb hby at_159) rfl k) ?_
        refine own_sW T501 (mkF m 162 #[iv p0, iv p1, own_j p2, s_, rv ta, iv mo, iv 8, rv ad462, u_, u_, u_] [.int 4, .int 8]) (fun t k => XS.iconst X501.here hx rfl (hb hby at_161) k) ?_
        refine own_sW T501 (mkF m 165 #[iv p0, iv p1, own_j p2, s_, rv ta, iv mo, iv 8, rv ad462, u_, u_, u_] []) (fun t k => XS.icmpNo X501.here hx rfl (hb hby at_162) rfl (tlt (by decide : ((4 : Int32) < (8 : Int32)))).2.2.2 k) ?_
        refine own_sW T501 (mkF m 167 #[iv p0, iv p1, own_j p2, s_, rv ta, iv mo, iv 8, rv ad462, u_, u_, u_] [.ref ad462]) (fun t k => XS.aload X501.here hx rfl (hb hby at_165) rfl rfl k) ?_
        refine own_sW T501 (mkF m 168 #[iv p0, iv p1, own_j p2, s_, rv ta, iv mo, iv 8, rv ad462, u_, u_, u_] [.int 4, .ref ad462]) (fun t k => XS.iconst X501.here hx rfl (hb hby at_167) k) ?_
        refine own_sW T501 (mkF m 169 #[iv p0, iv p1, own_j p2, s_, rv ta, iv mo, iv 8, rv ad462, u_, u_, u_] [.int 4, .int 4, .ref ad462]) (fun t k => XS.iconst X501.here hx rfl (hb hby at_168) k) ?_
        refine own_sW T501 (mkF m 171 #[iv p0, iv p1, own_j p2, s_, rv ta, iv mo, iv 8, rv ad462, u_, u_, u_] [.ref ta, .int 4, .int 4, .ref ad462]) (fun t k => XS.aload X501.here hx rfl (hb hby at_169) rfl rfl k) ?_
        refine own_sW T501 (mkF m 172 #[iv p0, iv p1, own_j p2, s_, rv ta, iv mo, iv 8, rv ad462, u_, u_, u_] [.int p0, .ref ta, .int 4, .int 4, .ref ad462]) (fun t k => XS.iloadN X501.here hx rfl (hb hby at_171) rfl k) ?_
        refine own_sW T501 (mkF m 173 #[iv p0, iv p1, own_j p2, s_, rv ta, iv mo, iv 8, rv ad462, u_, u_, u_] [.long p2, .int p0, .ref ta, .int 4, .int 4, .ref ad462]) (fun t k => XS.lloadN X501.here hx rfl (hb hby at_172) rfl k) ?_
        obtain ⟨_, _, ⟨T510, L510, k510, n510⟩, -, X510, ⟨Lc510, hQ510, lq510, yq510, zq510⟩, st510⟩ := Jvm.LawKit.callS X501 hx (y := (⟨"com/example/umpire/umpire/xsts/ValidityOfPinLaw", "ch", "(ILjava/lang/String;IJ)C"⟩ : MethodName)) hown (mvT hZ (hW 22 _ rfl)) (mvT hZ (hW 23 _ rfl)) (mvT hZ (hW 24 _ rfl)) (mvT hZ (hW 25 _ rfl)) (by decide) (backOf (W := 2) (rm_ch l Z a0 hw [] ta tb tk tn tl (4 : Int32) p0 p2 fm ic h501 n0 Z501 g502 g503 g504 g505 O501 hfm S_f htf (by decide) S_c hic) hZ (hW 25 _ rfl) (hW 24 _ rfl) (by decide) (by decide)) (g := (mkF m 173 #[iv p0, iv p1, own_j p2, s_, rv ta, iv mo, iv 8, rv ad462, u_, u_, u_] [.long p2, .int p0, .ref ta, .int 4, .int 4, .ref ad462])) rfl (by rw [hml]; rfl) (argsL := [(.int (4 : Int32)), (.ref ta), (.int p0), (.long p2)]) (rest := [(.int (4 : Int32)), (.ref ad462)]) (lenOf pd_20 rfl) rfl (by show 2 * 0 + _ ≤ _; exact Nat.le_of_eq rfl) (hb hby at_173) (fun _ _ => ⟨rfl, e501, (by decide : 3 + 0 ≤ _), (by decide : 40 + 0 ≤ _)⟩)
        dsimp only [Pt.U, Pt.locs, Pt.cells, Pt.slots] at X510 lq510 yq510 zq510 st510 hQ510
        subst lq510 yq510 zq510
        obtain ⟨rfl, Nq510, eq509⟩ := hQ510
        have N510 := Fr.app N501 Nq510
        refine own_sW T510 (mkF m 176 #[iv p0, iv p1, own_j p2, s_, rv ta, iv mo, iv 8, rv ad462, u_, u_, u_] [.int (nar .char (own_chv tl tn p0 (4 : Int32) p2)), .int 4, .ref ad462]) st510 ?_
        have hb4 := own_c255 tl tn p0 (4 : Int32) p2
        revert hb4
        generalize (nar .char (own_chv tl tn p0 (4 : Int32) p2)) = c4
        intro hb4
        obtain ⟨cl511, Ar511, qa511, S511, M511, H511, U511⟩ := id g506
        obtain ⟨T511, h511, X511, e511, W511, st511⟩ := stC X510 hx hZ eq509 Ar511 (j := (4 : Int32)) (inb_of S511 ⟨by decide, by decide⟩) (g := (mkF m 176 #[iv p0, iv p1, own_j p2, s_, rv ta, iv mo, iv 8, rv ad462, u_, u_, u_] [.int c4, .int 4, .ref ad462])) rfl rfl (hb hby at_176)
        have g512 := g502.wr W511
        have g513 := g503.other W511 (Or.inl ne462_1)
        have g514 := g504.other W511 (Or.inl ne462_1)
        have g515 := g505.other W511 ne462_2
        have g516 : Arv Z h511 ad462 k462 .char (8 : Int32) [(.int (nar .char c0)), (.int (nar .char c1)), (.int (nar .char c2)), (.int (nar .char c3)), (.int (nar .char c4)), (.int (0 : Int32)), (.int (0 : Int32)), (.int (0 : Int32))] (.int (0 : Int32)) := Arv.set Ar511 qa511 S511 M511 H511 U511 (fits_nar_char _) W511 4 rfl (Nat.le_of_ble_eq_true rfl)
        have C517 := C507.trans (CHr.wr W511 sf507_ad462 C507.1)
        have J517 := Nat.le_trans J507 (Nat.le_of_eq W511.size.symm)
        have sf517_ad462 := Safe.wr W511 sf507_ad462 C507.1 sf507_ad462
        have N511 := Fr.snoc X511 N510 o462
        have Z511 : n0 ≤ h511.size := (Nat.le_trans Z501 (Nat.le_of_eq W511.size.symm))
        have O511 : Old Z n0 h511 := O501.wr W511 o462
        refine own_sW T511 (mkF m 177 #[iv p0, iv p1, own_j p2, s_, rv ta, iv mo, iv 8, rv ad462, u_, u_, u_] []) st511 ?_
        refine own_sW T511 (mkF m 179 #[iv p0, iv p1, own_j p2, s_, rv ta, iv mo, iv 8, rv ad462, u_, u_, u_] [.int 8]) (fun t k => XS.iload X511.here hx rfl (hb hby at_177) rfl k) ?_
        refine own_sW T511 (mkF m 180 #[iv p0, iv p1, own_j p2, s_, rv ta, iv mo, iv 8, rv ad462, u_, u_, u_] [.int 5, .int 8]) (fun t k => XS.iconst X511.here hx rfl (hb hby at_179) k) ?_
        refine own_sW T511 (mkF m 183 #[iv p0, iv p1, own_j p2, s_, rv ta, iv mo, iv 8, rv ad462, u_, u_, u_] []) (fun t k => XS.icmpNo X511.here hx rfl (hb hby at_180) rfl (tlt (by decide : ((5 : Int32) < (8 : Int32)))).2.2.2 k) ?_
        refine own_sW T511 (mkF m 185 #[iv p0, iv p1, own_j p2, s_, rv ta, iv mo, iv 8, rv ad462, u_, u_, u_] [.ref ad462]) (fun t k => XS.aload X511.here hx rfl (hb hby at_183) rfl rfl k) ?_
        refine own_sW T511 (mkF m 186 #[iv p0, iv p1, own_j p2, s_, rv ta, iv mo, iv 8, rv ad462, u_, u_, u_] [.int 5, .ref ad462]) (fun t k => XS.iconst X511.here hx rfl (hb hby at_185) k) ?_
        refine own_sW T511 (mkF m 187 #[iv p0, iv p1, own_j p2, s_, rv ta, iv mo, iv 8, rv ad462, u_, u_, u_] [.int 5, .int 5, .ref ad462]) (fun t k => XS.iconst X511.here hx rfl (hb hby at_186) k) ?_
        refine own_sW T511 (mkF m 189 #[iv p0, iv p1, own_j p2, s_, rv ta, iv mo, iv 8, rv ad462, u_, u_, u_] [.ref ta, .int 5, .int 5, .ref ad462]) (fun t k => XS.aload X511.here hx rfl (hb hby at_187) rfl rfl k) ?_
        refine own_sW T511 (mkF m 190 #[iv p0, iv p1, own_j p2, s_, rv ta, iv mo, iv 8, rv ad462, u_, u_, u_] [.int p0, .ref ta, .int 5, .int 5, .ref ad462]) (fun t k => XS.iloadN X511.here hx rfl (hb hby at_189) rfl k) ?_
        refine own_sW T511 (mkF m 191 #[iv p0, iv p1, own_j p2, s_, rv ta, iv mo, iv 8, rv ad462, u_, u_, u_] [.long p2, .int p0, .ref ta, .int 5, .int 5, .ref ad462]) (fun t k => XS.lloadN X511.here hx rfl (hb hby at_190) rfl k) ?_
        obtain ⟨_, _, ⟨T520, L520, k520, n520⟩, -, X520, ⟨Lc520, hQ520, lq520, yq520, zq520⟩, st520⟩ := Jvm.LawKit.callS X511 hx (y := (⟨"com/example/umpire/umpire/xsts/ValidityOfPinLaw", "ch", "(ILjava/lang/String;IJ)C"⟩ : MethodName)) hown (mvT hZ (hW 22 _ rfl)) (mvT hZ (hW 23 _ rfl)) (mvT hZ (hW 24 _ rfl)) (mvT hZ (hW 25 _ rfl)) (by decide) (backOf (W := 2) (rm_ch l Z a0 hw [] ta tb tk tn tl (5 : Int32) p0 p2 fm ic h511 n0 Z511 g512 g513 g514 g515 O511 hfm S_f htf (by decide) S_c hic) hZ (hW 25 _ rfl) (hW 24 _ rfl) (by decide) (by decide)) (g := (mkF m 191 #[iv p0, iv p1, own_j p2, s_, rv ta, iv mo, iv 8, rv ad462, u_, u_, u_] [.long p2, .int p0, .ref ta, .int 5, .int 5, .ref ad462])) rfl (by rw [hml]; rfl) (argsL := [(.int (5 : Int32)), (.ref ta), (.int p0), (.long p2)]) (rest := [(.int (5 : Int32)), (.ref ad462)]) (lenOf pd_20 rfl) rfl (by show 2 * 0 + _ ≤ _; exact Nat.le_of_eq rfl) (hb hby at_191) (fun _ _ => ⟨rfl, e511, (by decide : 3 + 0 ≤ _), (by decide : 40 + 0 ≤ _)⟩)
        dsimp only [Pt.U, Pt.locs, Pt.cells, Pt.slots] at X520 lq520 yq520 zq520 st520 hQ520
        subst lq520 yq520 zq520
        obtain ⟨rfl, Nq520, eq519⟩ := hQ520
        have N520 := Fr.app N511 Nq520
        refine own_sW T520 (mkF m 194 #[iv p0, iv p1, own_j p2, s_, rv ta, iv mo, iv 8, rv ad462, u_, u_, u_] [.int (nar .char (own_chv tl tn p0 (5 : Int32) p2)), .int 5, .ref ad462]) st520 ?_
        have hb5 := own_c255 tl tn p0 (5 : Int32) p2
        revert hb5
        generalize (nar .char (own_chv tl tn p0 (5 : Int32) p2)) = c5
        intro hb5
        obtain ⟨cl521, Ar521, qa521, S521, M521, H521, U521⟩ := id g516
        obtain ⟨T521, h521, X521, e521, W521, st521⟩ := stC X520 hx hZ eq519 Ar521 (j := (5 : Int32)) (inb_of S521 ⟨by decide, by decide⟩) (g := (mkF m 194 #[iv p0, iv p1, own_j p2, s_, rv ta, iv mo, iv 8, rv ad462, u_, u_, u_] [.int c5, .int 5, .ref ad462])) rfl rfl (hb hby at_194)
        have g522 := g512.wr W521
        have g523 := g513.other W521 (Or.inl ne462_1)
        have g524 := g514.other W521 (Or.inl ne462_1)
        have g525 := g515.other W521 ne462_2
        have g526 : Arv Z h521 ad462 k462 .char (8 : Int32) [(.int (nar .char c0)), (.int (nar .char c1)), (.int (nar .char c2)), (.int (nar .char c3)), (.int (nar .char c4)), (.int (nar .char c5)), (.int (0 : Int32)), (.int (0 : Int32))] (.int (0 : Int32)) := Arv.set Ar521 qa521 S521 M521 H521 U521 (fits_nar_char _) W521 5 rfl (Nat.le_of_ble_eq_true rfl)
        have C527 := C517.trans (CHr.wr W521 sf517_ad462 C517.1)
        have J527 := Nat.le_trans J517 (Nat.le_of_eq W521.size.symm)
        have sf527_ad462 := Safe.wr W521 sf517_ad462 C517.1 sf517_ad462
        have N521 := Fr.snoc X521 N520 o462
        have Z521 : n0 ≤ h521.size := (Nat.le_trans Z511 (Nat.le_of_eq W521.size.symm))
        have O521 : Old Z n0 h521 := O511.wr W521 o462
        refine own_sW T521 (mkF m 195 #[iv p0, iv p1, own_j p2, s_, rv ta, iv mo, iv 8, rv ad462, u_, u_, u_] []) st521 ?_
        refine own_sW T521 (mkF m 197 #[iv p0, iv p1, own_j p2, s_, rv ta, iv mo, iv 8, rv ad462, u_, u_, u_] [.int 8]) (fun t k => XS.iload X521.here hx rfl (hb hby at_195) rfl k) ?_
        refine own_sW T521 (mkF m 199 #[iv p0, iv p1, own_j p2, s_, rv ta, iv mo, iv 8, rv ad462, u_, u_, u_] [.int 6, .int 8]) (fun t k => XS.bipush X521.here hx rfl (hb hby at_197) k) ?_
        refine own_sW T521 (mkF m 202 #[iv p0, iv p1, own_j p2, s_, rv ta, iv mo, iv 8, rv ad462, u_, u_, u_] []) (fun t k => XS.icmpNo X521.here hx rfl (hb hby at_199) rfl (tlt (by decide : ((6 : Int32) < (8 : Int32)))).2.2.2 k) ?_
        refine own_sW T521 (mkF m 204 #[iv p0, iv p1, own_j p2, s_, rv ta, iv mo, iv 8, rv ad462, u_, u_, u_] [.ref ad462]) (fun t k => XS.aload X521.here hx rfl (hb hby at_202) rfl rfl k) ?_
        refine own_sW T521 (mkF m 206 #[iv p0, iv p1, own_j p2, s_, rv ta, iv mo, iv 8, rv ad462, u_, u_, u_] [.int 6, .ref ad462]) (fun t k => XS.bipush X521.here hx rfl (hb hby at_204) k) ?_
        refine own_sW T521 (mkF m 208 #[iv p0, iv p1, own_j p2, s_, rv ta, iv mo, iv 8, rv ad462, u_, u_, u_] [.int 6, .int 6, .ref ad462]) (fun t k => XS.bipush X521.here hx rfl (hb hby at_206) k) ?_
        refine own_sW T521 (mkF m 210 #[iv p0, iv p1, own_j p2, s_, rv ta, iv mo, iv 8, rv ad462, u_, u_, u_] [.ref ta, .int 6, .int 6, .ref ad462]) (fun t k => XS.aload X521.here hx rfl (hb hby at_208) rfl rfl k) ?_
        refine own_sW T521 (mkF m 211 #[iv p0, iv p1, own_j p2, s_, rv ta, iv mo, iv 8, rv ad462, u_, u_, u_] [.int p0, .ref ta, .int 6, .int 6, .ref ad462]) (fun t k => XS.iloadN X521.here hx rfl (hb hby at_210) rfl k) ?_
        refine own_sW T521 (mkF m 212 #[iv p0, iv p1, own_j p2, s_, rv ta, iv mo, iv 8, rv ad462, u_, u_, u_] [.long p2, .int p0, .ref ta, .int 6, .int 6, .ref ad462]) (fun t k => XS.lloadN X521.here hx rfl (hb hby at_211) rfl k) ?_
        obtain ⟨_, _, ⟨T530, L530, k530, n530⟩, -, X530, ⟨Lc530, hQ530, lq530, yq530, zq530⟩, st530⟩ := Jvm.LawKit.callS X521 hx (y := (⟨"com/example/umpire/umpire/xsts/ValidityOfPinLaw", "ch", "(ILjava/lang/String;IJ)C"⟩ : MethodName)) hown (mvT hZ (hW 22 _ rfl)) (mvT hZ (hW 23 _ rfl)) (mvT hZ (hW 24 _ rfl)) (mvT hZ (hW 25 _ rfl)) (by decide) (backOf (W := 2) (rm_ch l Z a0 hw [] ta tb tk tn tl (6 : Int32) p0 p2 fm ic h521 n0 Z521 g522 g523 g524 g525 O521 hfm S_f htf (by decide) S_c hic) hZ (hW 25 _ rfl) (hW 24 _ rfl) (by decide) (by decide)) (g := (mkF m 212 #[iv p0, iv p1, own_j p2, s_, rv ta, iv mo, iv 8, rv ad462, u_, u_, u_] [.long p2, .int p0, .ref ta, .int 6, .int 6, .ref ad462])) rfl (by rw [hml]; rfl) (argsL := [(.int (6 : Int32)), (.ref ta), (.int p0), (.long p2)]) (rest := [(.int (6 : Int32)), (.ref ad462)]) (lenOf pd_20 rfl) rfl (by show 2 * 0 + _ ≤ _; exact Nat.le_of_eq rfl) (hb hby at_212) (fun _ _ => ⟨rfl, e521, (by decide : 3 + 0 ≤ _), (by decide : 40 + 0 ≤ _)⟩)
        dsimp only [Pt.U, Pt.locs, Pt.cells, Pt.slots] at X530 lq530 yq530 zq530 st530 hQ530
        subst lq530 yq530 zq530
        obtain ⟨rfl, Nq530, eq529⟩ := hQ530
        have N530 := Fr.app N521 Nq530
        refine own_sW T530 (mkF m 215 #[iv p0, iv p1, own_j p2, s_, rv ta, iv mo, iv 8, rv ad462, u_, u_, u_] [.int (nar .char (own_chv tl tn p0 (6 : Int32) p2)), .int 6, .ref ad462]) st530 ?_
        have hb6 := own_c255 tl tn p0 (6 : Int32) p2
        revert hb6
        generalize (nar .char (own_chv tl tn p0 (6 : Int32) p2)) = c6
        intro hb6
        obtain ⟨cl531, Ar531, qa531, S531, M531, H531, U531⟩ := id g526
        obtain ⟨T531, h531, X531, e531, W531, st531⟩ := stC X530 hx hZ eq529 Ar531 (j := (6 : Int32)) (inb_of S531 ⟨by decide, by decide⟩) (g := (mkF m 215 #[iv p0, iv p1, own_j p2, s_, rv ta, iv mo, iv 8, rv ad462, u_, u_, u_] [.int c6, .int 6, .ref ad462])) rfl rfl (hb hby at_215)
        have g532 := g522.wr W531
        have g533 := g523.other W531 (Or.inl ne462_1)
        have g534 := g524.other W531 (Or.inl ne462_1)
        have g535 := g525.other W531 ne462_2
        have g536 : Arv Z h531 ad462 k462 .char (8 : Int32) [(.int (nar .char c0)), (.int (nar .char c1)), (.int (nar .char c2)), (.int (nar .char c3)), (.int (nar .char c4)), (.int (nar .char c5)), (.int (nar .char c6)), (.int (0 : Int32))] (.int (0 : Int32)) := Arv.set Ar531 qa531 S531 M531 H531 U531 (fits_nar_char _) W531 6 rfl (Nat.le_of_ble_eq_true rfl)
        have C537 := C527.trans (CHr.wr W531 sf527_ad462 C527.1)
        have J537 := Nat.le_trans J527 (Nat.le_of_eq W531.size.symm)
        have sf537_ad462 := Safe.wr W531 sf527_ad462 C527.1 sf527_ad462
        have N531 := Fr.snoc X531 N530 o462
        have Z531 : n0 ≤ h531.size := (Nat.le_trans Z521 (Nat.le_of_eq W531.size.symm))
        have O531 : Old Z n0 h531 := O521.wr W531 o462
        refine own_sW T531 (mkF m 216 #[iv p0, iv p1, own_j p2, s_, rv ta, iv mo, iv 8, rv ad462, u_, u_, u_] []) st531 ?_
        refine own_sW T531 (mkF m 218 #[iv p0, iv p1, own_j p2, s_, rv ta, iv mo, iv 8, rv ad462, u_, u_, u_] [.int 8]) (fun t k => XS.iload X531.here hx rfl (hb hby at_216) rfl k) ?_
        refine own_sW T531 (mkF m 220 #[iv p0, iv p1, own_j p2, s_, rv ta, iv mo, iv 8, rv ad462, u_, u_, u_] [.int 7, .int 8]) (fun t k => XS.bipush X531.here hx rfl (hb hby at_218) k) ?_
        refine own_sW T531 (mkF m 223 #[iv p0, iv p1, own_j p2, s_, rv ta, iv mo, iv 8, rv ad462, u_, u_, u_] []) (fun t k => XS.icmpNo X531.here hx rfl (hb hby at_220) rfl (tlt (by decide : ((7 : Int32) < (8 : Int32)))).2.2.2 k) ?_
        refine own_sW T531 (mkF m 225 #[iv p0, iv p1, own_j p2, s_, rv ta, iv mo, iv 8, rv ad462, u_, u_, u_] [.ref ad462]) (fun t k => XS.aload X531.here hx rfl (hb hby at_223) rfl rfl k) ?_
        refine own_sW T531 (mkF m 227 #[iv p0, iv p1, own_j p2, s_, rv ta, iv mo, iv 8, rv ad462, u_, u_, u_] [.int 7, .ref ad462]) (fun t k => XS.bipush X531.here hx rfl (hb hby at_225) k) ?_
        refine own_sW T531 (mkF m 229 #[iv p0, iv p1, own_j p2, s_, rv ta, iv mo, iv 8, rv ad462, u_, u_, u_] [.int 7, .int 7, .ref ad462]) (fun t k => XS.bipush X531.here hx rfl (hb hby at_227) k) ?_
        refine own_sW T531 (mkF m 231 #[iv p0, iv p1, own_j p2, s_, rv ta, iv mo, iv 8, rv ad462, u_, u_, u_] [.ref ta, .int 7, .int 7, .ref ad462]) (fun t k => XS.aload X531.here hx rfl (hb hby at_229) rfl rfl k) ?_
        refine own_sW T531 (mkF m 232 #[iv p0, iv p1, own_j p2, s_, rv ta, iv mo, iv 8, rv ad462, u_, u_, u_] [.int p0, .ref ta, .int 7, .int 7, .ref ad462]) (fun t k => XS.iloadN X531.here hx rfl (hb hby at_231) rfl k) ?_
        refine own_sW T531 (mkF m 233 #[iv p0, iv p1, own_j p2, s_, rv ta, iv mo, iv 8, rv ad462, u_, u_, u_] [.long p2, .int p0, .ref ta, .int 7, .int 7, .ref ad462]) (fun t k => XS.lloadN X531.here hx rfl (hb hby at_232) rfl k) ?_
        obtain ⟨_, _, ⟨T540, L540, k540, n540⟩, -, X540, ⟨Lc540, hQ540, lq540, yq540, zq540⟩, st540⟩ := Jvm.LawKit.callS X531 hx (y := (⟨"com/example/umpire/umpire/xsts/ValidityOfPinLaw", "ch", "(ILjava/lang/String;IJ)C"⟩ : MethodName)) hown (mvT hZ (hW 22 _ rfl)) (mvT hZ (hW 23 _ rfl)) (mvT hZ (hW 24 _ rfl)) (mvT hZ (hW 25 _ rfl)) (by decide) (backOf (W := 2) (rm_ch l Z a0 hw [] ta tb tk tn tl (7 : Int32) p0 p2 fm ic h531 n0 Z531 g532 g533 g534 g535 O531 hfm S_f htf (by decide) S_c hic) hZ (hW 25 _ rfl) (hW 24 _ rfl) (by decide) (by decide)) (g := (mkF m 233 #[iv p0, iv p1, own_j p2, s_, rv ta, iv mo, iv 8, rv ad462, u_, u_, u_] [.long p2, .int p0, .ref ta, .int 7, .int 7, .ref ad462])) rfl (by rw [hml]; rfl) (argsL := [(.int (7 : Int32)), (.ref ta), (.int p0), (.long p2)]) (rest := [(.int (7 : Int32)), (.ref ad462)]) (lenOf pd_20 rfl) rfl (by show 2 * 0 + _ ≤ _; exact Nat.le_of_eq rfl) (hb hby at_233) (fun _ _ => ⟨rfl, e531, (by decide : 3 + 0 ≤ _), (by decide : 40 + 0 ≤ _)⟩)
        dsimp only [Pt.U, Pt.locs, Pt.cells, Pt.slots] at X540 lq540 yq540 zq540 st540 hQ540
        subst lq540 yq540 zq540
        obtain ⟨rfl, Nq540, eq539⟩ := hQ540
        have N540 := Fr.app N531 Nq540
        refine own_sW T540 (mkF m 236 #[iv p0, iv p1, own_j p2, s_, rv ta, iv mo, iv 8, rv ad462, u_, u_, u_] [.int (nar .char (own_chv tl tn p0 (7 : Int32) p2)), .int 7, .ref ad462]) st540 ?_
        have hb7 := own_c255 tl tn p0 (7 : Int32) p2
        revert hb7
        generalize (nar .char (own_chv tl tn p0 (7 : Int32) p2)) = c7
        intro hb7
        obtain ⟨cl541, Ar541, qa541, S541, M541, H541, U541⟩ := id g536
        obtain ⟨T541, h541, X541, e541, W541, st541⟩ := stC X540 hx hZ eq539 Ar541 (j := (7 : Int32)) (inb_of S541 ⟨by decide, by decide⟩) (g := (mkF m 236 #[iv p0, iv p1, own_j p2, s_, rv ta, iv mo, iv 8, rv ad462, u_, u_, u_] [.int c7, .int 7, .ref ad462])) rfl rfl (hb hby at_236)
        have g542 := g532.wr W541
        have g543 := g533.other W541 (Or.inl ne462_1)
        have g544 := g534.other W541 (Or.inl ne462_1)
        have g545 := g535.other W541 ne462_2
        have g546 : Arv Z h541 ad462 k462 .char (8 : Int32) [(.int (nar .char c0)), (.int (nar .char c1)), (.int (nar .char c2)), (.int (nar .char c3)), (.int (nar .char c4)), (.int (nar .char c5)), (.int (nar .char c6)), (.int (nar .char c7))] (.int (0 : Int32)) := Arv.set Ar541 qa541 S541 M541 H541 U541 (fits_nar_char _) W541 7 rfl (Nat.le_of_ble_eq_true rfl)
        have C547 := C537.trans (CHr.wr W541 sf537_ad462 C537.1)
        have J547 := Nat.le_trans J537 (Nat.le_of_eq W541.size.symm)
        have sf547_ad462 := Safe.wr W541 sf537_ad462 C537.1 sf537_ad462
        have N541 := Fr.snoc X541 N540 o462
        have Z541 : n0 ≤ h541.size := (Nat.le_trans Z531 (Nat.le_of_eq W541.size.symm))
        have O541 : Old Z n0 h541 := O531.wr W541 o462
        refine own_sW T541 (mkF m 237 #[iv p0, iv p1, own_j p2, s_, rv ta, iv mo, iv 8, rv ad462, u_, u_, u_] []) st541 ?_
        exact j237 ad462 k462 (8 : Int32) [(.int (nar .char c0)), (.int (nar .char c1)), (.int (nar .char c2)), (.int (nar .char c3)), (.int (nar .char c4)), (.int (nar .char c5)), (.int (nar .char c6)), (.int (nar .char c7))] (8 : Int32) _ _ T541 h541 _ (X541.mono (by decide) (by decide)) hZ hown e541 N541 Z541 SH13 J547 C547 O541 g546 sf547_ad462 o462 (Or.inr (Or.inr (Or.inr (Or.inr (Or.inr (Or.inr (Or.inr ⟨_, _, _, _, _, _, _, _, rfl, rfl, hb0, hb1, hb2, hb3, hb4, hb5, hb6, hb7⟩)))))))
    refine own_sW TH13 (mkF m 24 #[iv p0, iv p1, own_j p2, s_, rv ta, iv mo, u_, u_, u_, u_, u_] [.int mo]) (fun t k => XS.iload XH13.here hx rfl (hb hby at_22) rfl k) ?_
    by_cases c24_548 : mo = (0 : Int32)
    · refine own_sW TH13 (mkF m 27 #[iv p0, iv p1, own_j p2, s_, rv ta, iv mo, u_, u_, u_, u_, u_] []) (fun t k => XS.ifNo XH13.here hx rfl (hb hby at_24) rfl ((if0 _ _).trans (teq c24_548).2) k) ?_
      refine own_sW TH13 (mkF m 29 #[iv p0, iv p1, own_j p2, s_, rv ta, iv mo, u_, u_, u_, u_, u_] [.ref ta]) (fun t k => XS.aload XH13.here hx rfl (hb hby at_27) rfl rfl k) ?_
      obtain ⟨cq552, kq552, q552a, q552b, q552c⟩ := isOf hZ eH13 f0H13
      obtain ⟨_, _, ⟨T551, L551, k551, n551⟩, -, X551, ⟨Lc551, hQ551, lq551, yq551, zq551⟩, st551⟩ := XH13.virtualBack hx (y := (⟨"java/lang/String", "length", "()I"⟩ : MethodName)) (z := (⟨"java/lang/String", "length", "()I"⟩ : MethodName)) hown (mvT hZ (hW 8 _ rfl)) (mvT hZ (hW 9 _ rfl)) (notFace_of_selects (args := #[]) (mvT hZ (hW 11 _ rfl))) (mvT hZ (hW 11 _ rfl)) (mvT hZ (hW 10 _ rfl)) (by decide) (backOf (W := 0) (rm_len l Z a0 hw [] ta tb tk tn tl ic hH13 n0 ZH13 f0H13 f1H13 f2H13 f3H13 OH13 S_c hic) hZ (hW 12 _ rfl) (hW 1 _ rfl) (by decide) (by decide)) q552a q552c (g := (mkF m 29 #[iv p0, iv p1, own_j p2, s_, rv ta, iv mo, u_, u_, u_, u_, u_] [.ref ta])) rfl (by rw [hml]; rfl) (Steps.refl _) (argsL := []) (rest := []) (lenOf pd_5 rfl) rfl (by show 2 * 0 + _ ≤ _; exact Nat.le_of_eq rfl) (hb hby at_29) (fun _ _ => ⟨rfl, eH13, (by decide : 2 + 0 ≤ _), (by decide : 32 + 0 ≤ _)⟩)
      dsimp only [Pt.U, Pt.locs, Pt.cells, Pt.slots] at X551 lq551 yq551 zq551 st551 hQ551
      subst lq551 yq551 zq551
      obtain ⟨rfl, Nq551, eq550⟩ := hQ551
      have N551 := Fr.app NH13 Nq551
      refine own_trW (T' := T551) (g' := (mkF m 32 #[iv p0, iv p1, own_j p2, s_, rv ta, iv mo, u_, u_, u_, u_, u_] [.int tn])) st551 ?_
      refine own_sW T551 (mkF m 34 #[iv p0, iv p1, own_j p2, s_, rv ta, iv mo, iv tn, u_, u_, u_, u_] []) (fun t k => XS.istore X551.here hx rfl (hb hby at_32) rfl (l' := #[iv p0, iv p1, own_j p2, s_, rv ta, iv mo, iv tn, u_, u_, u_, u_]) rfl k) ?_
      refine own_sW T551 (mkF m 82 #[iv p0, iv p1, own_j p2, s_, rv ta, iv mo, iv tn, u_, u_, u_, u_] []) (fun t k => XS.goto X551.here hx rfl (pc0 := 34) (pc' := 82) rfl (hb hby at_34) (by decide) (by decide) k) ?_
      exact j82 T551 _ X551 eq550 N551 tn (own_Nt htf).1
    · refine own_sW TH13 (mkF m 37 #[iv p0, iv p1, own_j p2, s_, rv ta, iv mo, u_, u_, u_, u_, u_] []) (fun t k => XS.ifYes XH13.here hx rfl (pc0 := 24) (pc' := 37) rfl (hb hby at_24) rfl ((if0 _ _).trans (feq c24_548).2) (by decide) (by decide) k) ?_
      refine own_sW TH13 (mkF m 39 #[iv p0, iv p1, own_j p2, s_, rv ta, iv mo, u_, u_, u_, u_, u_] [.int mo]) (fun t k => XS.iload XH13.here hx rfl (hb hby at_37) rfl k) ?_
      refine own_sW TH13 (mkF m 40 #[iv p0, iv p1, own_j p2, s_, rv ta, iv mo, u_, u_, u_, u_, u_] [.int 1, .int mo]) (fun t k => XS.iconst XH13.here hx rfl (hb hby at_39) k) ?_
      by_cases c40_553 : mo = (1 : Int32)
      · refine own_sW TH13 (mkF m 43 #[iv p0, iv p1, own_j p2, s_, rv ta, iv mo, u_, u_, u_, u_, u_] []) (fun t k => XS.icmpNo XH13.here hx rfl (hb hby at_40) rfl (teq c40_553).2 k) ?_
        refine own_sW TH13 (mkF m 45 #[iv p0, iv p1, own_j p2, s_, rv ta, iv mo, u_, u_, u_, u_, u_] [.ref ta]) (fun t k => XS.aload XH13.here hx rfl (hb hby at_43) rfl rfl k) ?_
        obtain ⟨cq557, kq557, q557a, q557b, q557c⟩ := isOf hZ eH13 f0H13
        obtain ⟨_, _, ⟨T556, L556, k556, n556⟩, -, X556, ⟨Lc556, hQ556, lq556, yq556, zq556⟩, st556⟩ := XH13.virtualBack hx (y := (⟨"java/lang/String", "length", "()I"⟩ : MethodName)) (z := (⟨"java/lang/String", "length", "()I"⟩ : MethodName)) hown (mvT hZ (hW 8 _ rfl)) (mvT hZ (hW 9 _ rfl)) (notFace_of_selects (args := #[]) (mvT hZ (hW 11 _ rfl))) (mvT hZ (hW 11 _ rfl)) (mvT hZ (hW 10 _ rfl)) (by decide) (backOf (W := 0) (rm_len l Z a0 hw [] ta tb tk tn tl ic hH13 n0 ZH13 f0H13 f1H13 f2H13 f3H13 OH13 S_c hic) hZ (hW 12 _ rfl) (hW 1 _ rfl) (by decide) (by decide)) q557a q557c (g := (mkF m 45 #[iv p0, iv p1, own_j p2, s_, rv ta, iv mo, u_, u_, u_, u_, u_] [.ref ta])) rfl (by rw [hml]; rfl) (Steps.refl _) (argsL := []) (rest := []) (lenOf pd_5 rfl) rfl (by show 2 * 0 + _ ≤ _; exact Nat.le_of_eq rfl) (hb hby at_45) (fun _ _ => ⟨rfl, eH13, (by decide : 2 + 0 ≤ _), (by decide : 32 + 0 ≤ _)⟩)
        dsimp only [Pt.U, Pt.locs, Pt.cells, Pt.slots] at X556 lq556 yq556 zq556 st556 hQ556
        subst lq556 yq556 zq556
        obtain ⟨rfl, Nq556, eq555⟩ := hQ556
        have N556 := Fr.app NH13 Nq556
        refine own_trW (T' := T556) (g' := (mkF m 48 #[iv p0, iv p1, own_j p2, s_, rv ta, iv mo, u_, u_, u_, u_, u_] [.int tn])) st556 ?_
        refine own_sW T556 (mkF m 49 #[iv p0, iv p1, own_j p2, s_, rv ta, iv mo, u_, u_, u_, u_, u_] [.int 1, .int tn]) (fun t k => XS.iconst X556.here hx rfl (hb hby at_48) k) ?_
        refine own_sW T556 (mkF m 50 #[iv p0, iv p1, own_j p2, s_, rv ta, iv mo, u_, u_, u_, u_, u_] [.int (tn - (1 : Int32))]) (fun t k => XS.isub X556.here hx rfl (hb hby at_49) rfl k) ?_
        refine own_sW T556 (mkF m 52 #[iv p0, iv p1, own_j p2, s_, rv ta, iv mo, iv (tn - (1 : Int32)), u_, u_, u_, u_] []) (fun t k => XS.istore X556.here hx rfl (hb hby at_50) rfl (l' := #[iv p0, iv p1, own_j p2, s_, rv ta, iv mo, iv (tn - (1 : Int32)), u_, u_, u_, u_]) rfl k) ?_
        refine own_sW T556 (mkF m 82 #[iv p0, iv p1, own_j p2, s_, rv ta, iv mo, iv (tn - (1 : Int32)), u_, u_, u_, u_] []) (fun t k => XS.goto X556.here hx rfl (pc0 := 52) (pc' := 82) rfl (hb hby at_52) (by decide) (by decide) k) ?_
        exact j82 T556 _ X556 eq555 N556 (tn - (1 : Int32)) (own_Nt htf).2.1
      · refine own_sW TH13 (mkF m 55 #[iv p0, iv p1, own_j p2, s_, rv ta, iv mo, u_, u_, u_, u_, u_] []) (fun t k => XS.icmpYes XH13.here hx rfl (pc0 := 40) (pc' := 55) rfl (hb hby at_40) rfl (feq c40_553).2 (by decide) (by decide) k) ?_
        refine own_sW TH13 (mkF m 57 #[iv p0, iv p1, own_j p2, s_, rv ta, iv mo, u_, u_, u_, u_, u_] [.int mo]) (fun t k => XS.iload XH13.here hx rfl (hb hby at_55) rfl k) ?_
        refine own_sW TH13 (mkF m 58 #[iv p0, iv p1, own_j p2, s_, rv ta, iv mo, u_, u_, u_, u_, u_] [.int 2, .int mo]) (fun t k => XS.iconst XH13.here hx rfl (hb hby at_57) k) ?_
        by_cases c58_558 : mo = (2 : Int32)
        · refine own_sW TH13 (mkF m 61 #[iv p0, iv p1, own_j p2, s_, rv ta, iv mo, u_, u_, u_, u_, u_] []) (fun t k => XS.icmpNo XH13.here hx rfl (hb hby at_58) rfl (teq c58_558).2 k) ?_
          refine own_sW TH13 (mkF m 63 #[iv p0, iv p1, own_j p2, s_, rv ta, iv mo, u_, u_, u_, u_, u_] [.ref ta]) (fun t k => XS.aload XH13.here hx rfl (hb hby at_61) rfl rfl k) ?_
          obtain ⟨cq562, kq562, q562a, q562b, q562c⟩ := isOf hZ eH13 f0H13
          obtain ⟨_, _, ⟨T561, L561, k561, n561⟩, -, X561, ⟨Lc561, hQ561, lq561, yq561, zq561⟩, st561⟩ := XH13.virtualBack hx (y := (⟨"java/lang/String", "length", "()I"⟩ : MethodName)) (z := (⟨"java/lang/String", "length", "()I"⟩ : MethodName)) hown (mvT hZ (hW 8 _ rfl)) (mvT hZ (hW 9 _ rfl)) (notFace_of_selects (args := #[]) (mvT hZ (hW 11 _ rfl))) (mvT hZ (hW 11 _ rfl)) (mvT hZ (hW 10 _ rfl)) (by decide) (backOf (W := 0) (rm_len l Z a0 hw [] ta tb tk tn tl ic hH13 n0 ZH13 f0H13 f1H13 f2H13 f3H13 OH13 S_c hic) hZ (hW 12 _ rfl) (hW 1 _ rfl) (by decide) (by decide)) q562a q562c (g := (mkF m 63 #[iv p0, iv p1, own_j p2, s_, rv ta, iv mo, u_, u_, u_, u_, u_] [.ref ta])) rfl (by rw [hml]; rfl) (Steps.refl _) (argsL := []) (rest := []) (lenOf pd_5 rfl) rfl (by show 2 * 0 + _ ≤ _; exact Nat.le_of_eq rfl) (hb hby at_63) (fun _ _ => ⟨rfl, eH13, (by decide : 2 + 0 ≤ _), (by decide : 32 + 0 ≤ _)⟩)
          dsimp only [Pt.U, Pt.locs, Pt.cells, Pt.slots] at X561 lq561 yq561 zq561 st561 hQ561
          subst lq561 yq561 zq561
          obtain ⟨rfl, Nq561, eq560⟩ := hQ561
          have N561 := Fr.app NH13 Nq561
          refine own_trW (T' := T561) (g' := (mkF m 66 #[iv p0, iv p1, own_j p2, s_, rv ta, iv mo, u_, u_, u_, u_, u_] [.int tn])) st561 ?_
          refine own_sW T561 (mkF m 67 #[iv p0, iv p1, own_j p2, s_, rv ta, iv mo, u_, u_, u_, u_, u_] [.int 1, .int tn]) (fun t k => XS.iconst X561.here hx rfl (hb hby at_66) k) ?_
          refine own_sW T561 (mkF m 68 #[iv p0, iv p1, own_j p2, s_, rv ta, iv mo, u_, u_, u_, u_, u_] [.int (tn + (1 : Int32))]) (fun t k => XS.iadd X561.here hx rfl (hb hby at_67) rfl k) ?_
          refine own_sW T561 (mkF m 70 #[iv p0, iv p1, own_j p2, s_, rv ta, iv mo, iv (tn + (1 : Int32)), u_, u_, u_, u_] []) (fun t k => XS.istore X561.here hx rfl (hb hby at_68) rfl (l' := #[iv p0, iv p1, own_j p2, s_, rv ta, iv mo, iv (tn + (1 : Int32)), u_, u_, u_, u_]) rfl k) ?_
          refine own_sW T561 (mkF m 82 #[iv p0, iv p1, own_j p2, s_, rv ta, iv mo, iv (tn + (1 : Int32)), u_, u_, u_, u_] []) (fun t k => XS.goto X561.here hx rfl (pc0 := 70) (pc' := 82) rfl (hb hby at_70) (by decide) (by decide) k) ?_
          exact j82 T561 _ X561 eq560 N561 (tn + (1 : Int32)) (own_Nt htf).2.2
        · refine own_sW TH13 (mkF m 73 #[iv p0, iv p1, own_j p2, s_, rv ta, iv mo, u_, u_, u_, u_, u_] []) (fun t k => XS.icmpYes XH13.here hx rfl (pc0 := 58) (pc' := 73) rfl (hb hby at_58) rfl (feq c58_558).2 (by decide) (by decide) k) ?_
          refine own_sW TH13 (mkF m 74 #[iv p0, iv p1, own_j p2, s_, rv ta, iv mo, u_, u_, u_, u_, u_] [.int p1]) (fun t k => XS.iloadN XH13.here hx rfl (hb hby at_73) rfl k) ?_
          refine own_sW TH13 (mkF m 76 #[iv p0, iv p1, own_j p2, s_, rv ta, iv mo, u_, u_, u_, u_, u_] [.int 2147483647, .int p1]) (XH13.ldcInt hx hown (mvT hZ (hW 133 _ rfl)) (g := (mkF m 74 #[iv p0, iv p1, own_j p2, s_, rv ta, iv mo, u_, u_, u_, u_, u_] [.int p1])) rfl (hb hby at_74)) ?_
          refine own_sW TH13 (mkF m 77 #[iv p0, iv p1, own_j p2, s_, rv ta, iv mo, u_, u_, u_, u_, u_] [.int (p1 &&& (2147483647 : Int32))]) (fun t k => XS.iand XH13.here hx rfl (hb hby at_76) rfl k) ?_
          refine own_sW TH13 (mkF m 79 #[iv p0, iv p1, own_j p2, s_, rv ta, iv mo, u_, u_, u_, u_, u_] [.int 9, .int (p1 &&& (2147483647 : Int32))]) (fun t k => XS.bipush XH13.here hx rfl (hb hby at_77) k) ?_
          refine own_sW TH13 (mkF m 80 #[iv p0, iv p1, own_j p2, s_, rv ta, iv mo, u_, u_, u_, u_, u_] [.int ((p1 &&& (2147483647 : Int32)) % (9 : Int32))]) (fun t k => iremM (g := (mkF m 79 #[iv p0, iv p1, own_j p2, s_, rv ta, iv mo, u_, u_, u_, u_, u_] [.int 9, .int (p1 &&& (2147483647 : Int32))])) XH13 hx rfl (hb hby at_79) rfl (by decide) k) ?_
          refine own_sW TH13 (mkF m 82 #[iv p0, iv p1, own_j p2, s_, rv ta, iv mo, iv ((p1 &&& (2147483647 : Int32)) % (9 : Int32)), u_, u_, u_, u_] []) (fun t k => XS.istore XH13.here hx rfl (hb hby at_80) rfl (l' := #[iv p0, iv p1, own_j p2, s_, rv ta, iv mo, iv ((p1 &&& (2147483647 : Int32)) % (9 : Int32)), u_, u_, u_, u_]) rfl k) ?_
          exact j82 TH13 _ XH13 eH13 NH13 ((p1 &&& (2147483647 : Int32)) % (9 : Int32)) (own_Nr p1)
  refine own_sW s₁ (mkF m 1 #[iv p0, iv p1, own_j p2, s_, u_, u_, u_, u_, u_, u_, u_] [.int p0]) (fun t k => XS.iloadN X0.here hx rfl (hb hby at_0) rfl k) ?_
  refine own_sW s₁ (mkF m 2 #[iv p0, iv p1, own_j p2, s_, u_, u_, u_, u_, u_, u_, u_] [.int 1, .int p0]) (fun t k => XS.iconst X0.here hx rfl (hb hby at_1) k) ?_
  refine own_sW s₁ (mkF m 3 #[iv p0, iv p1, own_j p2, s_, u_, u_, u_, u_, u_, u_, u_] [.int (p0 &&& (1 : Int32))]) (fun t k => XS.iand X0.here hx rfl (hb hby at_2) rfl k) ?_
  by_cases c3_563 : (p0 &&& (1 : Int32)) = (0 : Int32)
  · refine own_sW s₁ (mkF m 6 #[iv p0, iv p1, own_j p2, s_, u_, u_, u_, u_, u_, u_, u_] []) (fun t k => XS.ifNo X0.here hx rfl (hb hby at_3) rfl ((if0 _ _).trans (teq c3_563).2) k) ?_
    obtain ⟨sa564, T564, h564, k564, sb564, sk564, X564, e564, E564, S564, J564, hZ, hown, A564, F564c, F564v, V564, la564, lb564, R564, -, ns564, st564⟩ := ldcCH X0 hx hZ hown (hW 0 _ rfl) (own_wS hw) e0 S0 J0 hEL (List.mem_of_getElem? (i := 0) rfl) C0.1 (vs := [(.int (118 : Int32)), (.int (97 : Int32)), (.int (108 : Int32)), (.int (105 : Int32)), (.int (100 : Int32))]) (z := (5 : Int32)) ⟨by decide, by first | rfl | decide⟩ (by decide) rfl (g := (mkF m 6 #[iv p0, iv p1, own_j p2, s_, u_, u_, u_, u_, u_, u_, u_] [])) rfl (hb hby at_6) (n := 28) (by decide) (by decide) (by decide : 0 + 2 ≤ _) (by decide : 0 + 32 ≤ _)
    have C564 := C0.trans R564
    have Z564 : n0 ≤ h564.size := Nat.le_trans Z0 E564.1
    have O564 : Old Z n0 h564 := O0.ext E564
    refine own_sW T564 (mkF m 8 #[iv p0, iv p1, own_j p2, s_, u_, u_, u_, u_, u_, u_, u_] [.ref sa564]) st564 ?_
    refine own_sW T564 (mkF m 13 #[iv p0, iv p1, own_j p2, s_, u_, u_, u_, u_, u_, u_, u_] [.ref sa564]) (fun t k => XS.goto X564.here hx rfl (pc0 := 8) (pc' := 13) rfl (hb hby at_8) (by decide) (by decide) k) ?_
    exact j13 sa564 sb564 sk564 (5 : Int32) [(.int (118 : Int32)), (.int (97 : Int32)), (.int (108 : Int32)), (.int (105 : Int32)), (.int (100 : Int32))] _ _ T564 h564 _ (X564.mono (by decide) (by decide)) hZ hown e564 N0 Z564 S564 J564 C564 O564 A564 F564c F564v V564  (Or.inl ⟨rfl, rfl⟩)
  · refine own_sW s₁ (mkF m 11 #[iv p0, iv p1, own_j p2, s_, u_, u_, u_, u_, u_, u_, u_] []) (fun t k => XS.ifYes X0.here hx rfl (pc0 := 3) (pc' := 11) rfl (hb hby at_3) rfl ((if0 _ _).trans (feq c3_563).2) (by decide) (by decide) k) ?_
    obtain ⟨sa565, T565, h565, k565, sb565, sk565, X565, e565, E565, S565, J565, hZ, hown, A565, F565c, F565v, V565, la565, lb565, R565, -, ns565, st565⟩ := ldcCH X0 hx hZ hown (hW 128 _ rfl) (own_wS hw) e0 S0 J0 hEL (List.mem_of_getElem? (i := 1) rfl) C0.1 (vs := [(.int (105 : Int32)), (.int (110 : Int32)), (.int (118 : Int32)), (.int (97 : Int32)), (.int (108 : Int32)), (.int (105 : Int32)), (.int (100 : Int32))]) (z := (7 : Int32)) ⟨by decide, by first | rfl | decide⟩ (by decide) rfl (g := (mkF m 11 #[iv p0, iv p1, own_j p2, s_, u_, u_, u_, u_, u_, u_, u_] [])) rfl (hb hby at_11) (n := 28) (by decide) (by decide) (by decide : 0 + 2 ≤ _) (by decide : 0 + 32 ≤ _)
    have C565 := C0.trans R565
    have Z565 : n0 ≤ h565.size := Nat.le_trans Z0 E565.1
    have O565 : Old Z n0 h565 := O0.ext E565
    refine own_sW T565 (mkF m 13 #[iv p0, iv p1, own_j p2, s_, u_, u_, u_, u_, u_, u_, u_] [.ref sa565]) st565 ?_
    exact j13 sa565 sb565 sk565 (7 : Int32) [(.int (105 : Int32)), (.int (110 : Int32)), (.int (118 : Int32)), (.int (97 : Int32)), (.int (108 : Int32)), (.int (105 : Int32)), (.int (100 : Int32))] _ _ T565 h565 _ (X565.mono (by decide) (by decide)) hZ hown e565 N0 Z565 S565 J565 C565 O565 A565 F565c F565v V565  (Or.inr ⟨rfl, rfl⟩)
theorem own_eqI {args : Array Value} {s : State} {t : Term} {k : Int32} (h : (Cond.eq t (.int k)).value args s none s [] = some true) : t.eval args s none [] s = some (.int k) := by
  obtain ⟨x, y, h1, h2, k1, k2⟩ := cmp_v (Or.inl h)
  have : y = .int k := (Option.some.inj h2).symm
  subst this
  obtain ⟨z, rfl⟩ := k2
  have g := Cond.eq_ints h1 h2
  rw [g] at h
  have : z = k := by simpa using h
  rw [h1, this]
theorem own_eqR {args : Array Value} {s : State} {t u : Term} {a : Addr} (h : (Cond.eq t u).value args s none s [] = some true) (hu : u.eval args s none [] s = some (.ref a)) : t.eval args s none [] s = some (.ref a) := by
  obtain ⟨x, y, h1, h2, k1, k2⟩ := cmp_v (Or.inl h)
  cases h2.symm.trans hu
  have g := eq_R h1 hu k2.2 rfl
  rw [g] at h
  have : x = .ref a := by simpa using h
  rw [h1, this]
theorem own_cat {v : Value} (h : v.isRef = true) : v.category = 1 := by cases v <;> first | rfl | cases h
theorem own_arrE {s : State} {args : Array Value} {t : Term} {ty : FieldType} {a : Addr} {n : Int32} (ev : t.eval args s none [] s = some (.ref a)) (ha : (Cond.arrayOf t ty).value args s none s [] = some true) (hl : (Cond.eq (Term.length t) (.int n)).value args s none s [] = some true) : ∃ c, Arr s s.heap a c ty ∧ c.slots.size < 2 ^ 31 ∧ c.slots.size.toInt32 = n := by
  obtain ⟨c, A⟩ := Arr.start ev ha
  obtain ⟨lx, ly, l1, l2, l3, l4⟩ := Jvm.Free.SB.Term.length_small (own_eqI hl)
  obtain rfl : lx = a := Value.ref.inj (Option.some.inj (l1.symm.trans ev))
  obtain rfl : ly = c := Option.some.inj (l2.symm.trans (Arr.fin (Vm.Alike.refl _) A))
  exact ⟨ly, A, l4, (Value.int.inj l3).symm⟩
set_option maxRecDepth 65536 in
set_option maxHeartbeats 40000000 in
theorem comes_1 {Post : Tables → Env → Array Value → State → Outcome → State → Prop} (hpost : ∀ tb e args s v u, (limb_1_1.after args s (.returned v) u = true ∧ limb_1_2.after args s (.returned v) u = true ∧ True) → Jvm.D.FramedW s (.returned v) u (Jvm.fieldLocs frame_1_writes args s ++ Jvm.arrayLocs frame_1_arrays args s ++ Jvm.staticLocs frame_1_statics s) 24 3200 → Post tb e args s (.returned v) u) :
    ArmFor flags0 classFile x code maxLocals ret World_1 tables_1 room_1 Calls_1 rest_1 Pre_1 Post := by
  intro l hfl _ _ p e ha hc hk s m args below hf hA hF happ hP
  obtain ⟨hcalls, hrest, hpre⟩ := hP
  obtain ⟨-, -, -, hnamed, -, -, -, hat⟩ := (Spec.applies_iff hf).mp happ
  obtain ⟨hg, hn⟩ := and_e (Cond.before_iff.mp (show (Jvm.Cond.and given_1 narrow_1).before args s = true from hpre))
  obtain ⟨hc0, hg0⟩ := and_e hg
  obtain ⟨hc1, hg1⟩ := and_e hg0
  obtain ⟨hc2, hg2⟩ := and_e hg1
  obtain ⟨w0, w1, w2, rfl⟩ : ∃ w0 w1 w2 : Value, args = #[w0, w1, w2] := by
    have hs : args.size = 3 := by simpa [Cond.value, given_1] using hc0
    obtain ⟨L⟩ := args
    match L, hs with
    | [w0, w1, w2], _ => exact ⟨w0, w1, w2, rfl⟩
  have hw := fun d (hd : d ∈ tables_1) => atoms_spec (ws := Jvm.Cond.code x code maxLocals ret :: tables_1) hat d (List.mem_cons_of_mem _ hd)
  have hfit : Fit s := fun {y c} hc i hi => by
    obtain ⟨ha, rfl⟩ := Array.getElem?_eq_some_iff.mp hc
    have q := List.all_eq_true.mp ((Array.all_eq_true_iff_forall_mem.mp hF) _ (Array.getElem_mem ha)) i (List.mem_range.mpr hi)
    simpa [Array.getElem?_eq_getElem hi] using q
  obtain ⟨i0, ev0⟩ := is_v hc1
  obtain rfl : w0 = (.int i0) := Option.some.inj ev0
  obtain ⟨i1, ev1⟩ := is_v hc2
  obtain rfl : w1 = (.int i1) := Option.some.inj ev1
  obtain ⟨i2, ev2⟩ := isL_v hg2
  obtain rfl : w2 = (.long i2) := Option.some.inj ev2
  obtain ⟨hsets, hown0⟩ := atoms_of _ (rest_1_c_eq ▸ (show rest_1_c.before _ s = true from hrest))
  have n5 := not_v (Cond.before_iff.mp (hsets _ (List.mem_of_getElem? (i := 2) rfl)))
  obtain ⟨ic, eic⟩ := is_v (Cond.before_iff.mp (hsets _ (List.mem_of_getElem? (i := 1) rfl)))
  have S_c : Sta s s.heap "java/lang/String" "COMPACT_STRINGS" "Z" (.int ic) := Sta.start eic (Or.inl (hsets _ (List.mem_of_getElem? (i := 0) rfl)))
  have hic : ¬ (ic = (0 : Int32)) := gotF (Cond.eq_ints eic (Term.int_eval (0))) n5
  obtain ⟨fm, efm, hfr⟩ := isR_v (Cond.before_iff.mp (hsets _ (List.mem_of_getElem? (i := 8) rfl)))
  have hfm := own_cat hfr
  have S_f : Sta s s.heap "jdk/internal/util/Preconditions" "SIOOBE_FORMATTER" "Ljava/util/function/BiFunction;" fm := Sta.start efm (Or.inl (hsets _ (List.mem_of_getElem? (i := 7) rfl)))
  have doe := Cond.before_iff.mp (hsets _ (List.mem_of_getElem? (i := 11) rfl))
  obtain ⟨oe, eoe⟩ := exa_v doe
  have S_oe : Sta s s.heap "java/util/Optional" "EMPTY" "Ljava/util/Optional;" (.ref oe) := Sta.start eoe (Or.inl (hsets _ (List.mem_of_getElem? (i := 10) rfl)))
  have E_oe := Exa.start eoe doe
  have F_oe : Fld s s.heap oe "java/util/Optional" "value" "Ljava/lang/Object;" .null := Fld.start ((fld_at eoe).symm.trans (null_v (Cond.before_iff.mp (hsets _ (List.mem_of_getElem? (i := 12) rfl)))))
  obtain ⟨m0, mr0⟩ := and_e hn
  obtain ⟨m1, mr1⟩ := and_e mr0
  obtain ⟨m2, mr2⟩ := and_e mr1
  obtain ⟨m3, mr3⟩ := and_e mr2
  obtain ⟨m4, mr4⟩ := and_e mr3
  obtain ⟨m5, mr5⟩ := and_e mr4
  obtain ⟨m6, mr6⟩ := and_e mr5
  obtain ⟨m7, mr7⟩ := and_e mr6
  obtain ⟨m8, mr8⟩ := and_e mr7
  obtain ⟨m9, mr9⟩ := and_e mr8
  obtain ⟨m10, mr10⟩ := and_e mr9
  obtain ⟨m11, mr11⟩ := and_e mr10
  obtain ⟨m12, mr12⟩ := and_e mr11
  obtain ⟨m13, mr13⟩ := and_e mr12
  obtain ⟨m14, mr14⟩ := and_e mr13
  obtain ⟨m15, mr15⟩ := and_e mr14
  obtain ⟨m16, mr16⟩ := and_e mr15
  obtain ⟨m17, mr17⟩ := and_e mr16
  obtain ⟨m18, mr18⟩ := and_e mr17
  obtain ⟨m19, mr19⟩ := and_e mr18
  obtain ⟨m20, mr20⟩ := and_e mr19
  obtain ⟨m21, mr21⟩ := and_e mr20
  obtain ⟨m22, mr22⟩ := and_e mr21
  obtain ⟨m23, mr23⟩ := and_e mr22
  obtain ⟨m24, mr24⟩ := and_e mr23
  obtain ⟨m25, mr25⟩ := and_e mr24
  have m26 := mr25
  obtain ⟨ev, eev⟩ := exa_v m0
  obtain ⟨ei, eei⟩ := exa_v m5
  have E_ev := Exa.start eev m0
  have E_ei := Exa.start eei m5
  have S_ev : Sta s s.heap "com/example/umpire/umpire/xsts/Validity" "VALID" "Lcom/example/umpire/umpire/xsts/Validity;" (.ref ev) := Sta.start eev (Or.inr ⟨(hw _ (List.mem_of_getElem? (i := 80) rfl)), (hw _ (List.mem_of_getElem? (i := 81) rfl))⟩)
  have S_ei : Sta s s.heap "com/example/umpire/umpire/xsts/Validity" "INVALID" "Lcom/example/umpire/umpire/xsts/Validity;" (.ref ei) := Sta.start eei (Or.inr ⟨(hw _ (List.mem_of_getElem? (i := 80) rfl)), (hw _ (List.mem_of_getElem? (i := 97) rfl))⟩)
  obtain ⟨va, eva⟩ := exa_v m2
  have E_va := Exa.start eva m2
  have S_vs : Sta s s.heap "com/example/umpire/umpire/xsts/Validity" "$VALUES" "[Lcom/example/umpire/umpire/xsts/Validity;" (.ref va) := Sta.start eva (Or.inr ⟨(hw _ (List.mem_of_getElem? (i := 80) rfl)), (hw _ (List.mem_of_getElem? (i := 89) rfl))⟩)
  obtain ⟨cva, A_va, l_va, s_va⟩ := own_arrE eva m1 m3
  have V_va : Arv s s.heap va cva.cls (.object "com/example/umpire/umpire/xsts/Validity") (2 : Int32) [(.ref ev), (.ref ei)] .null := Arv.start hfit A_va l_va s_va (by decide) rfl ⟨(elem_in (own_eqR m4 eev) eva rfl A_va.1).2, (elem_in (own_eqR m6 eei) eva rfl A_va.1).2, trivial⟩
  obtain ⟨sv, esv⟩ := exa_v m7
  have E_sv := Exa.start esv m7
  have F_ev : Fld s s.heap ev "com/example/umpire/umpire/xsts/Validity" "word" "Ljava/lang/String;" (.ref sv) := Fld.start ((fld_at eev).symm.trans esv)
  have C_sv : Fld s s.heap sv "java/lang/String" "coder" "B" (.int (0 : Int32)) := Fld.start ((fld_at esv).symm.trans (own_eqI m8))
  obtain ⟨bv, ebv⟩ := arr_v m9
  have F_sv : Fld s s.heap sv "java/lang/String" "value" "[B" (.ref bv) := Fld.start ((fld_at esv).symm.trans ebv)
  obtain ⟨cbv, A_bv, l_bv, s_bv⟩ := own_arrE ebv m9 m10
  have V_bv : Arv s s.heap bv cbv.cls .byte (5 : Int32) [(.int (118 : Int32)), (.int (97 : Int32)), (.int (108 : Int32)), (.int (105 : Int32)), (.int (100 : Int32))] (.int (0 : Int32)) := Arv.start hfit A_bv l_bv s_bv (by decide) rfl ⟨(elem_in (own_eqI m15) ebv rfl A_bv.1).2, (elem_in (own_eqI m16) ebv rfl A_bv.1).2, (elem_in (own_eqI m17) ebv rfl A_bv.1).2, (elem_in (own_eqI m18) ebv rfl A_bv.1).2, (elem_in (own_eqI m19) ebv rfl A_bv.1).2, trivial⟩
  obtain ⟨si, esi⟩ := exa_v m11
  have E_si := Exa.start esi m11
  have F_ei : Fld s s.heap ei "com/example/umpire/umpire/xsts/Validity" "word" "Ljava/lang/String;" (.ref si) := Fld.start ((fld_at eei).symm.trans esi)
  have C_si : Fld s s.heap si "java/lang/String" "coder" "B" (.int (0 : Int32)) := Fld.start ((fld_at esi).symm.trans (own_eqI m12))
  obtain ⟨bi, ebi⟩ := arr_v m13
  have F_si : Fld s s.heap si "java/lang/String" "value" "[B" (.ref bi) := Fld.start ((fld_at esi).symm.trans ebi)
  obtain ⟨cbi, A_bi, l_bi, s_bi⟩ := own_arrE ebi m13 m14
  have V_bi : Arv s s.heap bi cbi.cls .byte (7 : Int32) [(.int (105 : Int32)), (.int (110 : Int32)), (.int (118 : Int32)), (.int (97 : Int32)), (.int (108 : Int32)), (.int (105 : Int32)), (.int (100 : Int32))] (.int (0 : Int32)) := Arv.start hfit A_bi l_bi s_bi (by decide) rfl ⟨(elem_in (own_eqI m20) ebi rfl A_bi.1).2, (elem_in (own_eqI m21) ebi rfl A_bi.1).2, (elem_in (own_eqI m22) ebi rfl A_bi.1).2, (elem_in (own_eqI m23) ebi rfl A_bi.1).2, (elem_in (own_eqI m24) ebi rfl A_bi.1).2, (elem_in (own_eqI m25) ebi rfl A_bi.1).2, (elem_in (own_eqI m26) ebi rfl A_bi.1).2, trivial⟩
  obtain ⟨n, o, h1, h2, h3, _, L, rfl, ⟨rfl, N⟩, hC, hq⟩ := rm_law l s _ hw tables_1 i0 i1 i2 ic fm va cva.cls ev ei sv bv cbv.cls si bi cbi.cls oe s.heap s.heap.size (Nat.le_refl _) (Old.start s) S_c hic hfm S_f S_oe S_vs E_va V_va E_ev F_ev E_sv C_sv F_sv V_bv E_ei F_ei E_si C_si F_si V_bi E_oe F_oe S_ev S_ei p e ha hc hk s m _ below hf ((Spec.applies_iff_loose hf).mp happ).1 ⟨rfl, State.Warmed39.refl s, rfl, CHv.start (own_EW hw) hcalls.1 (hsets _ (List.mem_of_getElem? (i := 2) rfl)) (hw _ (List.mem_of_getElem? (i := 3) rfl)) (hw _ (List.mem_of_getElem? (i := 2) rfl))⟩ trivial
  refine ⟨n, _, h1, h2, h3, hpost _ _ _ _ _ _ ⟨Cond.after_iff.mpr rfl, Cond.after_iff.mpr (eq_i res_at (Term.int_eval (1)) rfl), trivial⟩ ⟨hq.1, hq.2.1, hq.2.2.1, (hq.2.2.2.sift fun y hy => Or.inr (N y hy)).mono (by decide) (by decide)⟩⟩
theorem main_1_1 : Claimed_1_1 := comes_1 fun _ _ _ _ _ _ h hF => ⟨h.1, hF⟩
theorem main_1_2 : Claimed_1_2 := comes_1 fun _ _ _ _ _ _ h hF => ⟨h.2.1, hF⟩

end Jvm.Pilot.@@N@@
namespace Jvm.Pilot.@@N@@
open Jvm Jvm.ClassFile Sem Op Lib Jvm.Free Jvm.Stand Jvm.Pilot.@@N@@.Jvm.D
/-! MADE BY PROGRAM (witnessworld.py) out of the Statement's table words and the real class files: 24 classes; the members and pool entries that the words name. The judged class is class 1, her method 2. -/
namespace start1
open Jvm.ClassFile
def u (s : String) : CpInfo := .utf8 (stringToUtf16 s)
/-- a pool by its gaps: so many unusable entries, then the entry; so many at the end -/
def gap : Nat → List CpInfo → List CpInfo
  | 0, r => r
  | n + 1, r => .unusable :: gap n r
def poolList (es : List (Nat × CpInfo)) (last : Nat) : List CpInfo := es.foldr (fun e r => gap e.1 (e.2 :: r)) (gap last [])
def pool (es : List (Nat × CpInfo)) (last : Nat) : Array CpInfo := ⟨poolList es last⟩
def fileOf (pool : Array CpInfo) (this : Nat) (attrs : Array Attribute := #[]) (ms : Array MethodInfo := #[]) (fl : Nat := 33) (sup : Nat := 0) (ifs : Array Nat := #[]) (fds : Array FieldInfo := #[]) : ClassFile where
  minorVersion := 0
  majorVersion := 65
  constantPool := pool
  accessFlags := fl
  thisClass := this
  superClass := sup
  interfaces := ifs
  fields := fds
  methods := ms
  attributes := attrs
def plain (name : String) (sup : Option ClassId) : Class where
  name := name
  kind := .ordinary
  loader := none
  accessFlags := 33
  super := sup
  interfaces := #[]
  cf := none
  fields := #[]
  methods := #[]
  instanceTypes := #[]
  staticTypes := #[]
  resolved := #[]
  callSites := []
  init := .initialized
  statics := none
  mirror := none

def pool0 : Array CpInfo := pool [(5, u "<init>"), (0, u "()V"), (1, .class_ 10), (1, u "java/lang/Object"), (85, u "clone"), (0, u "()Ljava/lang/Object;")] 26

def k0c0 : Code := { maxStack := 0, maxLocals := 1, code := object_method_1_code, exceptionTable := #[], attributes := #[] }
def k0m0 : Method := { name := "<init>", desc := "()V", sig := { parameters := [], returnType := none }, accessFlags := 1, code := some k0c0 }
def k0m1 : Method := { name := "clone", desc := "()Ljava/lang/Object;", sig := { parameters := [], returnType := some (.object "java/lang/Object") }, accessFlags := 260, code := none }
/-- java/lang/Object -/
def k0 : Class := { plain "java/lang/Object" none with
  accessFlags := 33
  interfaces := #[]
  cf := some (fileOf pool0 8 #[] #[{ accessFlags := 1, nameIndex := 5, descriptorIndex := 6, attributes := #[] }, { accessFlags := 260, nameIndex := 96, descriptorIndex := 97, attributes := #[] }] 33 0 #[] #[])
  fields := #[]
  methods := #[k0m0, k0m1]
  instanceTypes := #[]
  staticTypes := #[]
  resolved := Array.replicate 124 none
  statics := none }

def pool1 : Array CpInfo := pool [(2, .class_ 4), (1, u "java/lang/Object"), (0, u "<init>"), (0, u "()V"), (0, .long 255), (1, .methodref 10 11), (0, .class_ 12), (0, .nameAndType 13 14), (0, u "java/lang/String"), (0, u "length"), (0, u "()I"), (0, .methodref 10 16), (0, .nameAndType 17 18), (0, u "charAt"), (0, u "(I)C"), (0, .string 20), (0, u "valid"), (0, .string 22), (0, u "invalid"), (0, .integer 2147483647), (0, .methodref 25 26), (0, .class_ 27), (0, .nameAndType 28 29), (0, u "com/example/umpire/umpire/xsts/ValidityOfPinLaw"), (0, u "ch"), (0, u "(ILjava/lang/String;IJ)C"), (0, .methodref 10 31), (0, .nameAndType 5 32), (0, u "([C)V"), (0, .methodref 10 34), (0, .nameAndType 35 36), (0, u "equals"), (0, u "(Ljava/lang/Object;)Z"), (0, .fieldref 38 39), (0, .class_ 40), (0, .nameAndType 41 42), (0, u "com/example/umpire/umpire/xsts/Validity"), (0, u "VALID"), (0, u "Lcom/example/umpire/umpire/xsts/Validity;"), (0, .fieldref 38 44), (0, .nameAndType 45 42), (0, u "INVALID"), (0, .methodref 38 47), (0, .nameAndType 48 49), (0, u "of"), (0, u "(Ljava/lang/String;)Ljava/util/Optional;"), (0, .methodref 51 52), (0, .class_ 53), (0, .nameAndType 54 55), (0, u "java/util/Optional"), (0, u "orElse"), (0, u "(Ljava/lang/Object;)Ljava/lang/Object;"), (3, u "law"), (0, u "(IIJ)Z")] 4

def k1m0 : Method := { name := "<init>", desc := "()V", sig := { parameters := [], returnType := none }, accessFlags := 1, code := none }
def k1c1 : Code := { maxStack := 4, maxLocals := 7, code := method_2_code, exceptionTable := #[], attributes := #[] }
def k1m1 : Method := { name := "ch", desc := "(ILjava/lang/String;IJ)C", sig := { parameters := [.int, (.object "java/lang/String"), .int, .long], returnType := some .char }, accessFlags := 10, code := some k1c1 }
def k1c2 : Code := { maxStack := 7, maxLocals := 11, code := code, exceptionTable := #[], attributes := #[] }
def k1m2 : Method := { name := "law", desc := "(IIJ)Z", sig := { parameters := [.int, .int, .long], returnType := some .boolean }, accessFlags := 9, code := some k1c2 }
/-- com/example/umpire/umpire/xsts/ValidityOfPinLaw -/
def k1 : Class := { plain "com/example/umpire/umpire/xsts/ValidityOfPinLaw" (some 0) with
  accessFlags := 49
  interfaces := #[]
  cf := some (fileOf pool1 25 #[] #[{ accessFlags := 1, nameIndex := 5, descriptorIndex := 6, attributes := #[] }, { accessFlags := 10, nameIndex := 28, descriptorIndex := 29, attributes := #[] }, { accessFlags := 9, nameIndex := 59, descriptorIndex := 60, attributes := #[] }] 49 2 #[] #[])
  fields := #[]
  methods := #[k1m0, k1m1, k1m2]
  instanceTypes := #[]
  staticTypes := #[]
  resolved := Array.replicate 65 none
  statics := none }

def pool2 : Array CpInfo := pool [(1, .class_ 2), (0, u "java/io/Serializable"), (0, .class_ 4), (0, u "java/lang/Object")] 2

/-- java/io/Serializable -/
def k2 : Class := { plain "java/io/Serializable" (some 0) with
  accessFlags := 1537
  interfaces := #[]
  cf := some (fileOf pool2 1 #[] #[] 1537 3 #[] #[])
  fields := #[]
  methods := #[]
  instanceTypes := #[]
  staticTypes := #[]
  resolved := Array.replicate 7 none
  statics := none }

def pool3 : Array CpInfo := pool [(1, .class_ 2), (0, u "java/lang/Comparable"), (0, .class_ 4), (0, u "java/lang/Object")] 7

/-- java/lang/Comparable -/
def k3 : Class := { plain "java/lang/Comparable" (some 0) with
  accessFlags := 1537
  interfaces := #[]
  cf := some (fileOf pool3 1 #[] #[] 1537 3 #[] #[])
  fields := #[]
  methods := #[]
  instanceTypes := #[]
  staticTypes := #[]
  resolved := Array.replicate 12 none
  statics := none }

def pool4 : Array CpInfo := pool [(2, .class_ 4), (1, u "java/lang/CharSequence"), (42, .class_ 48), (0, u "java/lang/CharSequence$1CodePointIterator"), (10, .class_ 60), (0, u "java/lang/CharSequence$1CharIterator"), (5, .class_ 67), (0, u "java/lang/Object")] 63

/-- java/lang/CharSequence -/
def k4 : Class := { plain "java/lang/CharSequence" (some 0) with
  accessFlags := 1537
  interfaces := #[]
  cf := some (fileOf pool4 2 #[.nestMembers #[47, 59]] #[] 1537 66 #[] #[])
  fields := #[]
  methods := #[]
  instanceTypes := #[]
  staticTypes := #[]
  resolved := Array.replicate 131 none
  statics := none }

def pool5 : Array CpInfo := pool [(1, .class_ 2), (0, u "java/lang/constant/Constable"), (0, .class_ 4), (0, u "java/lang/Object")] 6

/-- java/lang/constant/Constable -/
def k5 : Class := { plain "java/lang/constant/Constable" (some 0) with
  accessFlags := 1537
  interfaces := #[]
  cf := some (fileOf pool5 1 #[] #[] 1537 3 #[] #[])
  fields := #[]
  methods := #[]
  instanceTypes := #[]
  staticTypes := #[]
  resolved := Array.replicate 11 none
  statics := none }

def pool6 : Array CpInfo := pool [(1, .class_ 2), (0, u "java/lang/constant/ConstantDesc"), (0, .class_ 4), (0, u "java/lang/Object")] 32

/-- java/lang/constant/ConstantDesc -/
def k6 : Class := { plain "java/lang/constant/ConstantDesc" (some 0) with
  accessFlags := 1537
  interfaces := #[]
  cf := some (fileOf pool6 1 #[] #[] 1537 3 #[] #[])
  fields := #[]
  methods := #[]
  instanceTypes := #[]
  staticTypes := #[]
  resolved := Array.replicate 37 none
  statics := none }

def pool7 : Array CpInfo := pool [(1, .methodref 2 3), (0, .class_ 4), (0, .nameAndType 5 6), (0, u "java/lang/Object"), (0, u "<init>"), (0, u "()V"), (0, .string 8), (0, u ""), (0, .fieldref 10 11), (0, .class_ 12), (0, .nameAndType 13 14), (0, u "java/lang/String"), (0, u "value"), (0, u "[B"), (0, .fieldref 10 16), (0, .nameAndType 17 18), (0, u "coder"), (0, u "B"), (2, u "hash"), (0, u "I"), (2, u "hashIsZero"), (0, u "Z"), (0, .methodref 10 28), (0, .nameAndType 5 29), (0, u "([CIILjava/lang/Void;)V"), (8, .fieldref 10 39), (0, .nameAndType 40 26), (0, u "COMPACT_STRINGS"), (1, .class_ 44), (1, u "java/lang/StringUTF16"), (0, u "compress"), (1, .methodref 42 48), (0, .nameAndType 49 50), (0, u "coderFromArrayLen"), (0, u "([BI)B"), (56, .class_ 109), (1, u "java/lang/StringLatin1"), (32, u "()Z"), (34, .methodref 42 178), (0, .nameAndType 45 179), (0, u "([CII)[B"), (154, u "()I"), (0, .methodref 10 336), (0, .nameAndType 17 337), (0, u "()B"), (25, u "([BI)C"), (27, u "(II)V"), (35, u "(I)C"), (64, .methodref 10 493), (0, .nameAndType 494 142), (0, u "isLatin1"), (0, .methodref 107 496), (0, .nameAndType 497 363), (0, u "charAt"), (3, u "checkIndex"), (5, u "length"), (33, .methodref 107 542), (0, .nameAndType 543 544), (0, u "equals"), (0, u "([B[B)Z"), (28, u "(Ljava/lang/Object;)Z"), (1, .class_ 576), (0, u "java/lang/CharSequence"), (22, u "CASE_INSENSITIVE_ORDER"), (0, u "Ljava/util/Comparator;"), (409, u "([C)V"), (42, .fieldref 1054 1055), (0, .class_ 1056), (0, .nameAndType 1057 1058), (0, u "jdk/internal/util/Preconditions"), (0, u "SIOOBE_FORMATTER"), (0, u "Ljava/util/function/BiFunction;"), (0, .methodref 1054 1060), (0, .nameAndType 501 1061), (0, u "(IILjava/util/function/BiFunction;)I"), (39, u "serialPersistentFields"), (0, u "[Ljava/io/ObjectStreamField;"), (0, .class_ 1104), (0, u "java/lang/String$CaseInsensitiveComparator"), (1, .class_ 1107), (0, u "java/io/Serializable"), (0, .class_ 1109), (0, u "java/lang/Comparable"), (0, .class_ 1111), (0, u "java/lang/constant/Constable"), (0, .class_ 1113), (0, u "java/lang/constant/ConstantDesc"), (2, u "serialVersionUID"), (0, u "J"), (3, u "REPL"), (0, u "C"), (2, u "LATIN1"), (1, u "UTF16")] 323

def k7m0 : Method := { name := "<init>", desc := "()V", sig := { parameters := [], returnType := none }, accessFlags := 1, code := none }
def k7c1 : Code := { maxStack := 5, maxLocals := 2, code := jdk_42_method_3_code, exceptionTable := #[], attributes := #[] }
def k7m1 : Method := { name := "<init>", desc := "([C)V", sig := { parameters := [(.array .char)], returnType := none }, accessFlags := 1, code := some k7c1 }
def k7c2 : Code := { maxStack := 2, maxLocals := 1, code := jdk_42_method_54_code, exceptionTable := #[], attributes := #[] }
def k7m2 : Method := { name := "length", desc := "()I", sig := { parameters := [], returnType := some .int }, accessFlags := 1, code := some k7c2 }
def k7c3 : Code := { maxStack := 2, maxLocals := 2, code := jdk_42_method_56_code, exceptionTable := #[], attributes := #[] }
def k7m3 : Method := { name := "charAt", desc := "(I)C", sig := { parameters := [.int], returnType := some .char }, accessFlags := 1, code := some k7c3 }
def k7c4 : Code := { maxStack := 2, maxLocals := 3, code := jdk_42_method_66_code, exceptionTable := #[], attributes := #[] }
def k7m4 : Method := { name := "equals", desc := "(Ljava/lang/Object;)Z", sig := { parameters := [(.object "java/lang/Object")], returnType := some .boolean }, accessFlags := 1, code := some k7c4 }
def k7c5 : Code := { maxStack := 4, maxLocals := 6, code := jdk_42_method_149_code, exceptionTable := #[], attributes := #[] }
def k7m5 : Method := { name := "<init>", desc := "([CIILjava/lang/Void;)V", sig := { parameters := [(.array .char), .int, .int, (.object "java/lang/Void")], returnType := none }, accessFlags := 2, code := some k7c5 }
def k7c6 : Code := { maxStack := 1, maxLocals := 1, code := jdk_42_method_152_code, exceptionTable := #[], attributes := #[] }
def k7m6 : Method := { name := "coder", desc := "()B", sig := { parameters := [], returnType := some .byte }, accessFlags := 0, code := some k7c6 }
def k7c7 : Code := { maxStack := 1, maxLocals := 1, code := jdk_42_method_154_code, exceptionTable := #[], attributes := #[] }
def k7m7 : Method := { name := "isLatin1", desc := "()Z", sig := { parameters := [], returnType := some .boolean }, accessFlags := 0, code := some k7c7 }
def k7c8 : Code := { maxStack := 3, maxLocals := 2, code := jdk_42_method_155_code, exceptionTable := #[], attributes := #[] }
def k7m8 : Method := { name := "checkIndex", desc := "(II)V", sig := { parameters := [.int, .int], returnType := none }, accessFlags := 8, code := some k7c8 }
/-- java/lang/String -/
def k7 : Class := { plain "java/lang/String" (some 0) with
  accessFlags := 49
  interfaces := #[2, 3, 4, 5, 6]
  cf := some (fileOf pool7 10 #[.nestMembers #[1103]] #[{ accessFlags := 1, nameIndex := 5, descriptorIndex := 6, attributes := #[] }, { accessFlags := 1, nameIndex := 5, descriptorIndex := 1010, attributes := #[] }, { accessFlags := 1, nameIndex := 507, descriptorIndex := 334, attributes := #[] }, { accessFlags := 1, nameIndex := 497, descriptorIndex := 427, attributes := #[] }, { accessFlags := 1, nameIndex := 543, descriptorIndex := 573, attributes := #[] }, { accessFlags := 2, nameIndex := 5, descriptorIndex := 29, attributes := #[] }, { accessFlags := 0, nameIndex := 17, descriptorIndex := 337, attributes := #[] }, { accessFlags := 0, nameIndex := 494, descriptorIndex := 142, attributes := #[] }, { accessFlags := 8, nameIndex := 501, descriptorIndex := 391, attributes := #[] }] 49 2 #[1106, 1108, 575, 1110, 1112] #[{ accessFlags := 18, nameIndex := 13, descriptorIndex := 14, attributes := #[] }, { accessFlags := 18, nameIndex := 17, descriptorIndex := 18, attributes := #[] }, { accessFlags := 2, nameIndex := 21, descriptorIndex := 22, attributes := #[] }, { accessFlags := 2, nameIndex := 25, descriptorIndex := 26, attributes := #[] }, { accessFlags := 26, nameIndex := 1116, descriptorIndex := 1117, attributes := #[] }, { accessFlags := 24, nameIndex := 40, descriptorIndex := 26, attributes := #[] }, { accessFlags := 26, nameIndex := 1101, descriptorIndex := 1102, attributes := #[] }, { accessFlags := 26, nameIndex := 1121, descriptorIndex := 1122, attributes := #[] }, { accessFlags := 25, nameIndex := 599, descriptorIndex := 600, attributes := #[] }, { accessFlags := 24, nameIndex := 1125, descriptorIndex := 18, attributes := #[] }, { accessFlags := 24, nameIndex := 1127, descriptorIndex := 18, attributes := #[] }])
  fields := #[{ name := "value", type := (.array .byte), accessFlags := 18, slot := 0, constantValue := 0 }, { name := "coder", type := .byte, accessFlags := 18, slot := 1, constantValue := 0 }, { name := "hash", type := .int, accessFlags := 2, slot := 2, constantValue := 0 }, { name := "hashIsZero", type := .boolean, accessFlags := 2, slot := 3, constantValue := 0 }, { name := "serialVersionUID", type := .long, accessFlags := 26, slot := 0, constantValue := 0 }, { name := "COMPACT_STRINGS", type := .boolean, accessFlags := 24, slot := 1, constantValue := 0 }, { name := "serialPersistentFields", type := (.array (.object "java/io/ObjectStreamField")), accessFlags := 26, slot := 2, constantValue := 0 }, { name := "REPL", type := .char, accessFlags := 26, slot := 3, constantValue := 0 }, { name := "CASE_INSENSITIVE_ORDER", type := (.object "java/util/Comparator"), accessFlags := 25, slot := 4, constantValue := 0 }, { name := "LATIN1", type := .byte, accessFlags := 24, slot := 5, constantValue := 0 }, { name := "UTF16", type := .byte, accessFlags := 24, slot := 6, constantValue := 0 }]
  methods := #[k7m0, k7m1, k7m2, k7m3, k7m4, k7m5, k7m6, k7m7, k7m8]
  instanceTypes := #[(.array .byte), .byte, .int, .boolean]
  staticTypes := #[.long, .boolean, (.array (.object "java/io/ObjectStreamField")), .char, (.object "java/util/Comparator"), .byte, .byte]
  resolved := Array.replicate 1451 none
  statics := some 0 }

def pool8 : Array CpInfo := pool [(1, .class_ 2), (0, u "java/lang/String"), (1, .class_ 6), (1, u "java/lang/Object"), (0, u "<init>"), (0, u "()V"), (0, .methodref 1 10), (0, .nameAndType 11 12), (0, u "checkIndex"), (0, u "(II)V"), (1, .class_ 16), (1, u "java/lang/StringLatin1"), (36, u "([BI)C"), (67, u "$assertionsDisabled"), (0, u "Z"), (98, .class_ 223), (1, u "java/lang/StringLatin1$LinesSpliterator"), (28, u "charAt"), (28, u "equals"), (0, u "([B[B)Z"), (107, .class_ 391), (0, u "java/lang/StringLatin1$CharsSpliterator")] 3

def k8m0 : Method := { name := "<init>", desc := "()V", sig := { parameters := [], returnType := none }, accessFlags := 0, code := none }
def k8c1 : Code := { maxStack := 2, maxLocals := 2, code := jdk_43_method_2_code, exceptionTable := #[], attributes := #[] }
def k8m1 : Method := { name := "charAt", desc := "([BI)C", sig := { parameters := [(.array .byte), .int], returnType := some .char }, accessFlags := 9, code := some k8c1 }
def k8c2 : Code := { maxStack := 3, maxLocals := 3, code := jdk_43_method_13_code, exceptionTable := #[], attributes := #[] }
def k8m2 : Method := { name := "equals", desc := "([B[B)Z", sig := { parameters := [(.array .byte), (.array .byte)], returnType := some .boolean }, accessFlags := 9, code := some k8c2 }
/-- java/lang/StringLatin1 -/
def k8 : Class := { plain "java/lang/StringLatin1" (some 0) with
  accessFlags := 48
  interfaces := #[]
  cf := some (fileOf pool8 14 #[.nestMembers #[390, 221]] #[{ accessFlags := 0, nameIndex := 7, descriptorIndex := 8, attributes := #[] }, { accessFlags := 9, nameIndex := 252, descriptorIndex := 53, attributes := #[] }, { accessFlags := 9, nameIndex := 281, descriptorIndex := 282, attributes := #[] }] 48 4 #[] #[{ accessFlags := 4120, nameIndex := 121, descriptorIndex := 122, attributes := #[] }])
  fields := #[{ name := "$assertionsDisabled", type := .boolean, accessFlags := 4120, slot := 0, constantValue := 0 }]
  methods := #[k8m0, k8m1, k8m2]
  instanceTypes := #[]
  staticTypes := #[.boolean]
  resolved := Array.replicate 395 none
  statics := none }

def pool9 : Array CpInfo := pool [(2, .class_ 4), (1, u "java/lang/Object"), (0, u "<init>"), (0, u "()V"), (17, .class_ 26), (1, u "jdk/internal/util/Preconditions"), (6, u "checkIndex"), (21, .class_ 56), (0, u "jdk/internal/util/Preconditions$4"), (57, .class_ 115), (0, u "jdk/internal/util/Preconditions$1"), (7, u "SIOOBE_FORMATTER"), (0, u "Ljava/util/function/BiFunction;"), (0, .class_ 126), (0, u "jdk/internal/util/Preconditions$2"), (3, u "AIOOBE_FORMATTER"), (0, .class_ 132), (0, u "jdk/internal/util/Preconditions$3"), (3, u "IOOBE_FORMATTER"), (41, u "(IILjava/util/function/BiFunction;)I")] 15

def k9m0 : Method := { name := "<init>", desc := "()V", sig := { parameters := [], returnType := none }, accessFlags := 1, code := none }
def k9c1 : Code := { maxStack := 3, maxLocals := 3, code := jdk_41_method_11_code, exceptionTable := #[], attributes := #[] }
def k9m1 : Method := { name := "checkIndex", desc := "(IILjava/util/function/BiFunction;)I", sig := { parameters := [.int, .int, (.object "java/util/function/BiFunction")], returnType := some .int }, accessFlags := 9, code := some k9c1 }
/-- jdk/internal/util/Preconditions -/
def k9 : Class := { plain "jdk/internal/util/Preconditions" (some 0) with
  accessFlags := 33
  interfaces := #[]
  cf := some (fileOf pool9 24 #[.nestMembers #[55, 131, 125, 114]] #[{ accessFlags := 1, nameIndex := 5, descriptorIndex := 6, attributes := #[] }, { accessFlags := 9, nameIndex := 33, descriptorIndex := 178, attributes := #[] }] 33 2 #[] #[{ accessFlags := 25, nameIndex := 123, descriptorIndex := 124, attributes := #[] }, { accessFlags := 25, nameIndex := 130, descriptorIndex := 124, attributes := #[] }, { accessFlags := 25, nameIndex := 136, descriptorIndex := 124, attributes := #[] }])
  fields := #[{ name := "SIOOBE_FORMATTER", type := (.object "java/util/function/BiFunction"), accessFlags := 25, slot := 0, constantValue := 0 }, { name := "AIOOBE_FORMATTER", type := (.object "java/util/function/BiFunction"), accessFlags := 25, slot := 1, constantValue := 0 }, { name := "IOOBE_FORMATTER", type := (.object "java/util/function/BiFunction"), accessFlags := 25, slot := 2, constantValue := 0 }]
  methods := #[k9m0, k9m1]
  instanceTypes := #[]
  staticTypes := #[(.object "java/util/function/BiFunction"), (.object "java/util/function/BiFunction"), (.object "java/util/function/BiFunction")]
  resolved := Array.replicate 194 none
  statics := some 1 }

def pool10 : Array CpInfo := pool [(6, .class_ 8), (1, u "java/lang/Object"), (0, u "<init>"), (0, u "()V"), (1, .class_ 14), (1, u "java/lang/StringUTF16"), (31, u "$assertionsDisabled"), (0, u "Z"), (13, u "HI_BYTE_SHIFT"), (0, u "I"), (2, u "LO_BYTE_SHIFT"), (49, .methodref 12 116), (0, .nameAndType 117 118), (0, u "compress"), (0, u "([CI[BII)I"), (3, u "([CII)[B"), (138, u "coderFromArrayLen"), (0, u "([BI)B"), (106, .class_ 371), (1, u "java/lang/StringUTF16$LinesSpliterator"), (58, u "MAX_LENGTH"), (196, .class_ 628), (0, u "java/lang/StringUTF16$CodePointsSpliterator"), (0, .class_ 630), (0, u "java/lang/StringUTF16$CharsSpliterator")] 4

def k10m0 : Method := { name := "<init>", desc := "()V", sig := { parameters := [], returnType := none }, accessFlags := 0, code := none }
def k10c1 : Code := { maxStack := 2, maxLocals := 2, code := jdk_52_method_15_code, exceptionTable := #[], attributes := #[] }
def k10m1 : Method := { name := "coderFromArrayLen", desc := "([BI)B", sig := { parameters := [(.array .byte), .int], returnType := some .byte }, accessFlags := 8, code := some k10c1 }
def k10c2 : Code := { maxStack := 5, maxLocals := 6, code := jdk_52_method_16_code, exceptionTable := #[], attributes := #[] }
def k10m2 : Method := { name := "compress", desc := "([CII)[B", sig := { parameters := [(.array .char), .int, .int], returnType := some (.array .byte) }, accessFlags := 9, code := some k10c2 }
def k10c3 : Code := { maxStack := 3, maxLocals := 7, code := jdk_52_method_21_code, exceptionTable := #[], attributes := #[] }
def k10m3 : Method := { name := "compress", desc := "([CI[BII)I", sig := { parameters := [(.array .char), .int, (.array .byte), .int, .int], returnType := some .int }, accessFlags := 9, code := some k10c3 }
/-- java/lang/StringUTF16 -/
def k10 : Class := { plain "java/lang/StringUTF16" (some 0) with
  accessFlags := 48
  interfaces := #[]
  cf := some (fileOf pool10 12 #[.nestMembers #[627, 629, 369]] #[{ accessFlags := 0, nameIndex := 9, descriptorIndex := 10, attributes := #[] }, { accessFlags := 8, nameIndex := 261, descriptorIndex := 262, attributes := #[] }, { accessFlags := 9, nameIndex := 117, descriptorIndex := 122, attributes := #[] }, { accessFlags := 9, nameIndex := 117, descriptorIndex := 118, attributes := #[] }] 48 6 #[] #[{ accessFlags := 26, nameIndex := 61, descriptorIndex := 62, attributes := #[] }, { accessFlags := 26, nameIndex := 65, descriptorIndex := 62, attributes := #[] }, { accessFlags := 24, nameIndex := 430, descriptorIndex := 62, attributes := #[] }, { accessFlags := 4120, nameIndex := 46, descriptorIndex := 47, attributes := #[] }])
  fields := #[{ name := "HI_BYTE_SHIFT", type := .int, accessFlags := 26, slot := 0, constantValue := 0 }, { name := "LO_BYTE_SHIFT", type := .int, accessFlags := 26, slot := 1, constantValue := 0 }, { name := "MAX_LENGTH", type := .int, accessFlags := 24, slot := 2, constantValue := 0 }, { name := "$assertionsDisabled", type := .boolean, accessFlags := 4120, slot := 3, constantValue := 0 }]
  methods := #[k10m0, k10m1, k10m2, k10m3]
  instanceTypes := #[]
  staticTypes := #[.int, .int, .int, .boolean]
  resolved := Array.replicate 635 none
  statics := none }

def pool11 : Array CpInfo := pool [(2, .class_ 4), (1, u "java/lang/Enum"), (0, u "name"), (0, u "Ljava/lang/String;"), (2, u "ordinal"), (0, u "I"), (1, .class_ 14), (1, u "java/lang/Object"), (4, u "hash"), (86, .class_ 108), (1, u "java/lang/Enum$EnumDesc"), (2, .class_ 112), (0, u "java/lang/constant/Constable"), (0, .class_ 114), (0, u "java/lang/Comparable"), (0, .class_ 116), (0, u "java/io/Serializable")] 87

/-- java/lang/Enum -/
def k11 : Class := { plain "java/lang/Enum" (some 0) with
  accessFlags := 1057
  interfaces := #[5, 3, 2]
  cf := some (fileOf pool11 2 #[.nestMembers #[106]] #[] 1057 12 #[111, 113, 115] #[{ accessFlags := 18, nameIndex := 5, descriptorIndex := 6, attributes := #[] }, { accessFlags := 18, nameIndex := 9, descriptorIndex := 10, attributes := #[] }, { accessFlags := 2, nameIndex := 19, descriptorIndex := 10, attributes := #[] }])
  fields := #[{ name := "name", type := (.object "java/lang/String"), accessFlags := 18, slot := 0, constantValue := 0 }, { name := "ordinal", type := .int, accessFlags := 18, slot := 1, constantValue := 0 }, { name := "hash", type := .int, accessFlags := 2, slot := 2, constantValue := 0 }]
  methods := #[]
  instanceTypes := #[(.object "java/lang/String"), .int, .int]
  staticTypes := #[]
  resolved := Array.replicate 204 none
  statics := none }

def pool12 : Array CpInfo := pool [(1, .class_ 2), (0, u "com/example/umpire/umpire/xsts/Validity"), (2, u "VALID"), (0, u "Lcom/example/umpire/umpire/xsts/Validity;"), (2, u "INVALID"), (0, .fieldref 1 11), (0, .nameAndType 12 13), (0, u "$VALUES"), (0, u "[Lcom/example/umpire/umpire/xsts/Validity;"), (0, .methodref 15 16), (0, .class_ 13), (0, .nameAndType 17 18), (0, u "clone"), (0, u "()Ljava/lang/Object;"), (1, .class_ 22), (1, u "java/lang/Enum"), (6, .fieldref 1 30), (0, .nameAndType 31 32), (0, u "word"), (0, u "Ljava/lang/String;"), (0, .methodref 1 34), (0, .nameAndType 35 36), (0, u "values"), (0, u "()[Lcom/example/umpire/umpire/xsts/Validity;"), (28, .methodref 66 67), (0, .class_ 68), (0, .nameAndType 69 70), (0, u "java/lang/String"), (0, u "equals"), (0, u "(Ljava/lang/Object;)Z"), (0, .methodref 72 73), (0, .class_ 74), (0, .nameAndType 75 76), (0, u "java/util/Optional"), (0, u "of"), (0, u "(Ljava/lang/Object;)Ljava/util/Optional;"), (0, .methodref 72 78), (0, .nameAndType 79 80), (0, u "empty"), (0, u "()Ljava/util/Optional;"), (22, u "(Ljava/lang/String;)Ljava/util/Optional;")] 28

def k12c0 : Code := { maxStack := 1, maxLocals := 0, code := prog_52_method_1_code, exceptionTable := #[], attributes := #[] }
def k12m0 : Method := { name := "values", desc := "()[Lcom/example/umpire/umpire/xsts/Validity;", sig := { parameters := [], returnType := some (.array (.object "com/example/umpire/umpire/xsts/Validity")) }, accessFlags := 9, code := some k12c0 }
def k12c1 : Code := { maxStack := 2, maxLocals := 5, code := prog_52_method_6_code, exceptionTable := #[], attributes := #[] }
def k12m1 : Method := { name := "of", desc := "(Ljava/lang/String;)Ljava/util/Optional;", sig := { parameters := [(.object "java/lang/String")], returnType := some (.object "java/util/Optional") }, accessFlags := 9, code := some k12c1 }
/-- com/example/umpire/umpire/xsts/Validity -/
def k12 : Class := { plain "com/example/umpire/umpire/xsts/Validity" (some 11) with
  accessFlags := 16432
  interfaces := #[]
  cf := some (fileOf pool12 1 #[] #[{ accessFlags := 9, nameIndex := 35, descriptorIndex := 36, attributes := #[] }, { accessFlags := 9, nameIndex := 75, descriptorIndex := 103, attributes := #[] }] 16432 20 #[] #[{ accessFlags := 16409, nameIndex := 5, descriptorIndex := 6, attributes := #[] }, { accessFlags := 16409, nameIndex := 9, descriptorIndex := 6, attributes := #[] }, { accessFlags := 18, nameIndex := 31, descriptorIndex := 32, attributes := #[] }, { accessFlags := 4122, nameIndex := 12, descriptorIndex := 13, attributes := #[] }])
  fields := #[{ name := "VALID", type := (.object "com/example/umpire/umpire/xsts/Validity"), accessFlags := 16409, slot := 0, constantValue := 0 }, { name := "INVALID", type := (.object "com/example/umpire/umpire/xsts/Validity"), accessFlags := 16409, slot := 1, constantValue := 0 }, { name := "word", type := (.object "java/lang/String"), accessFlags := 18, slot := 3, constantValue := 0 }, { name := "$VALUES", type := (.array (.object "com/example/umpire/umpire/xsts/Validity")), accessFlags := 4122, slot := 2, constantValue := 0 }]
  methods := #[k12m0, k12m1]
  instanceTypes := #[(.object "java/lang/String"), .int, .int, (.object "java/lang/String")]
  staticTypes := #[(.object "com/example/umpire/umpire/xsts/Validity"), (.object "com/example/umpire/umpire/xsts/Validity"), (.array (.object "com/example/umpire/umpire/xsts/Validity"))]
  resolved := Array.replicate 132 none
  statics := some 2 }

def pool13 : Array CpInfo := pool [(1, .class_ 2), (0, u "java/lang/Cloneable"), (0, .class_ 4), (0, u "java/lang/Object")] 2

/-- java/lang/Cloneable -/
def k13 : Class := { plain "java/lang/Cloneable" (some 0) with
  accessFlags := 1537
  interfaces := #[]
  cf := some (fileOf pool13 1 #[] #[] 1537 3 #[] #[])
  fields := #[]
  methods := #[]
  instanceTypes := #[]
  staticTypes := #[]
  resolved := Array.replicate 7 none
  statics := none }

def pool14 : Array CpInfo := pool [(1, .fieldref 2 3), (0, .class_ 4), (0, .nameAndType 5 6), (0, u "java/util/Optional"), (0, u "EMPTY"), (0, u "Ljava/util/Optional;"), (0, .methodref 8 9), (0, .class_ 10), (0, .nameAndType 11 12), (0, u "java/lang/Object"), (0, u "<init>"), (0, u "()V"), (0, .fieldref 2 14), (0, .nameAndType 15 16), (0, u "value"), (0, u "Ljava/lang/Object;"), (0, .methodref 18 19), (0, .class_ 20), (0, .nameAndType 21 22), (0, u "java/util/Objects"), (0, u "requireNonNull"), (0, u "(Ljava/lang/Object;)Ljava/lang/Object;"), (0, .methodref 2 24), (0, .nameAndType 11 25), (0, u "(Ljava/lang/Object;)V"), (29, u "empty"), (0, u "()Ljava/util/Optional;"), (8, u "(Ljava/lang/Object;)Ljava/util/Optional;"), (16, u "of"), (82, u "orElse")] 21

def k14c0 : Code := { maxStack := 1, maxLocals := 1, code := jdk_32_method_1_code, exceptionTable := #[], attributes := #[] }
def k14m0 : Method := { name := "empty", desc := "()Ljava/util/Optional;", sig := { parameters := [], returnType := some (.object "java/util/Optional") }, accessFlags := 9, code := some k14c0 }
def k14c1 : Code := { maxStack := 2, maxLocals := 2, code := jdk_32_method_2_code, exceptionTable := #[], attributes := #[] }
def k14m1 : Method := { name := "<init>", desc := "(Ljava/lang/Object;)V", sig := { parameters := [(.object "java/lang/Object")], returnType := none }, accessFlags := 2, code := some k14c1 }
def k14c2 : Code := { maxStack := 3, maxLocals := 1, code := jdk_32_method_3_code, exceptionTable := #[], attributes := #[] }
def k14m2 : Method := { name := "of", desc := "(Ljava/lang/Object;)Ljava/util/Optional;", sig := { parameters := [(.object "java/lang/Object")], returnType := some (.object "java/util/Optional") }, accessFlags := 9, code := some k14c2 }
def k14c3 : Code := { maxStack := 1, maxLocals := 2, code := jdk_32_method_15_code, exceptionTable := #[], attributes := #[] }
def k14m3 : Method := { name := "orElse", desc := "(Ljava/lang/Object;)Ljava/lang/Object;", sig := { parameters := [(.object "java/lang/Object")], returnType := some (.object "java/lang/Object") }, accessFlags := 1, code := some k14c3 }
/-- java/util/Optional -/
def k14 : Class := { plain "java/util/Optional" (some 0) with
  accessFlags := 49
  interfaces := #[]
  cf := some (fileOf pool14 2 #[] #[{ accessFlags := 9, nameIndex := 55, descriptorIndex := 56, attributes := #[] }, { accessFlags := 2, nameIndex := 11, descriptorIndex := 25, attributes := #[] }, { accessFlags := 9, nameIndex := 82, descriptorIndex := 65, attributes := #[] }, { accessFlags := 1, nameIndex := 165, descriptorIndex := 22, attributes := #[] }] 49 8 #[] #[{ accessFlags := 26, nameIndex := 5, descriptorIndex := 6, attributes := #[] }, { accessFlags := 18, nameIndex := 15, descriptorIndex := 16, attributes := #[] }])
  fields := #[{ name := "EMPTY", type := (.object "java/util/Optional"), accessFlags := 26, slot := 0, constantValue := 0 }, { name := "value", type := (.object "java/lang/Object"), accessFlags := 18, slot := 0, constantValue := 0 }]
  methods := #[k14m0, k14m1, k14m2, k14m3]
  instanceTypes := #[(.object "java/lang/Object")]
  staticTypes := #[(.object "java/util/Optional")]
  resolved := Array.replicate 187 none
  statics := some 3 }

def pool15 : Array CpInfo := pool [(2, .class_ 4), (1, u "java/lang/Object"), (0, u "<init>"), (0, u "()V"), (35, .class_ 44), (1, u "java/util/Objects"), (0, u "requireNonNull"), (0, u "(Ljava/lang/Object;)Ljava/lang/Object;")] 137

def k15m0 : Method := { name := "<init>", desc := "()V", sig := { parameters := [], returnType := none }, accessFlags := 2, code := none }
def k15c1 : Code := { maxStack := 2, maxLocals := 1, code := jdk_31_method_10_code, exceptionTable := #[], attributes := #[] }
def k15m1 : Method := { name := "requireNonNull", desc := "(Ljava/lang/Object;)Ljava/lang/Object;", sig := { parameters := [(.object "java/lang/Object")], returnType := some (.object "java/lang/Object") }, accessFlags := 9, code := some k15c1 }
/-- java/util/Objects -/
def k15 : Class := { plain "java/util/Objects" (some 0) with
  accessFlags := 49
  interfaces := #[]
  cf := some (fileOf pool15 42 #[] #[{ accessFlags := 2, nameIndex := 5, descriptorIndex := 6, attributes := #[] }, { accessFlags := 9, nameIndex := 45, descriptorIndex := 46, attributes := #[] }] 49 2 #[] #[])
  fields := #[]
  methods := #[k15m0, k15m1]
  instanceTypes := #[]
  staticTypes := #[]
  resolved := Array.replicate 184 none
  statics := none }

def pool16 : Array CpInfo := pool [(9, u "<init>"), (6, .class_ 18), (1, u "java/lang/Object"), (0, u "()V"), (1, .class_ 23), (1, u "jdk/internal/util/ArraysSupport"), (0, u "LOG2_ARRAY_LONG_INDEX_SCALE"), (0, u "I"), (2, u "U"), (0, u "Ljdk/internal/misc/Unsafe;"), (8, u "BIG_ENDIAN"), (0, u "Z"), (8, u "LOG2_BYTE_BIT_SIZE"), (4, u "LOG2_ARRAY_INT_INDEX_SCALE"), (54, u "JLA"), (0, u "Ljdk/internal/access/JavaLangAccess;"), (11, u "LOG2_ARRAY_BOOLEAN_INDEX_SCALE"), (9, u "LOG2_ARRAY_BYTE_INDEX_SCALE"), (5, u "LOG2_ARRAY_CHAR_INDEX_SCALE"), (5, u "LOG2_ARRAY_SHORT_INDEX_SCALE"), (18, u "LOG2_ARRAY_FLOAT_INDEX_SCALE"), (24, u "LOG2_ARRAY_DOUBLE_INDEX_SCALE"), (89, u "T_BOOLEAN"), (2, u "T_CHAR"), (1, u "T_FLOAT"), (1, u "T_DOUBLE"), (1, u "T_BYTE"), (1, u "T_SHORT"), (1, u "T_INT"), (1, u "T_LONG"), (1, u "SOFT_MAX_ARRAY_LENGTH")] 83

def k16m0 : Method := { name := "<init>", desc := "()V", sig := { parameters := [], returnType := none }, accessFlags := 2, code := none }
/-- jdk/internal/util/ArraysSupport -/
def k16 : Class := { plain "jdk/internal/util/ArraysSupport" (some 0) with
  accessFlags := 33
  interfaces := #[]
  cf := some (fileOf pool16 21 #[] #[{ accessFlags := 2, nameIndex := 9, descriptorIndex := 19, attributes := #[] }] 33 16 #[] #[{ accessFlags := 24, nameIndex := 28, descriptorIndex := 29, attributes := #[] }, { accessFlags := 26, nameIndex := 38, descriptorIndex := 39, attributes := #[] }, { accessFlags := 25, nameIndex := 121, descriptorIndex := 25, attributes := #[] }, { accessFlags := 25, nameIndex := 131, descriptorIndex := 25, attributes := #[] }, { accessFlags := 25, nameIndex := 137, descriptorIndex := 25, attributes := #[] }, { accessFlags := 25, nameIndex := 143, descriptorIndex := 25, attributes := #[] }, { accessFlags := 25, nameIndex := 53, descriptorIndex := 25, attributes := #[] }, { accessFlags := 25, nameIndex := 24, descriptorIndex := 25, attributes := #[] }, { accessFlags := 25, nameIndex := 162, descriptorIndex := 25, attributes := #[] }, { accessFlags := 25, nameIndex := 187, descriptorIndex := 25, attributes := #[] }, { accessFlags := 26, nameIndex := 48, descriptorIndex := 25, attributes := #[] }, { accessFlags := 25, nameIndex := 277, descriptorIndex := 25, attributes := #[] }, { accessFlags := 25, nameIndex := 280, descriptorIndex := 25, attributes := #[] }, { accessFlags := 25, nameIndex := 282, descriptorIndex := 25, attributes := #[] }, { accessFlags := 25, nameIndex := 284, descriptorIndex := 25, attributes := #[] }, { accessFlags := 25, nameIndex := 286, descriptorIndex := 25, attributes := #[] }, { accessFlags := 25, nameIndex := 288, descriptorIndex := 25, attributes := #[] }, { accessFlags := 25, nameIndex := 290, descriptorIndex := 25, attributes := #[] }, { accessFlags := 25, nameIndex := 292, descriptorIndex := 25, attributes := #[] }, { accessFlags := 26, nameIndex := 108, descriptorIndex := 109, attributes := #[] }, { accessFlags := 25, nameIndex := 294, descriptorIndex := 25, attributes := #[] }])
  fields := #[{ name := "U", type := (.object "jdk/internal/misc/Unsafe"), accessFlags := 24, slot := 0, constantValue := 0 }, { name := "BIG_ENDIAN", type := .boolean, accessFlags := 26, slot := 1, constantValue := 0 }, { name := "LOG2_ARRAY_BOOLEAN_INDEX_SCALE", type := .int, accessFlags := 25, slot := 2, constantValue := 0 }, { name := "LOG2_ARRAY_BYTE_INDEX_SCALE", type := .int, accessFlags := 25, slot := 3, constantValue := 0 }, { name := "LOG2_ARRAY_CHAR_INDEX_SCALE", type := .int, accessFlags := 25, slot := 4, constantValue := 0 }, { name := "LOG2_ARRAY_SHORT_INDEX_SCALE", type := .int, accessFlags := 25, slot := 5, constantValue := 0 }, { name := "LOG2_ARRAY_INT_INDEX_SCALE", type := .int, accessFlags := 25, slot := 6, constantValue := 0 }, { name := "LOG2_ARRAY_LONG_INDEX_SCALE", type := .int, accessFlags := 25, slot := 7, constantValue := 0 }, { name := "LOG2_ARRAY_FLOAT_INDEX_SCALE", type := .int, accessFlags := 25, slot := 8, constantValue := 0 }, { name := "LOG2_ARRAY_DOUBLE_INDEX_SCALE", type := .int, accessFlags := 25, slot := 9, constantValue := 0 }, { name := "LOG2_BYTE_BIT_SIZE", type := .int, accessFlags := 26, slot := 10, constantValue := 0 }, { name := "T_BOOLEAN", type := .int, accessFlags := 25, slot := 11, constantValue := 0 }, { name := "T_CHAR", type := .int, accessFlags := 25, slot := 12, constantValue := 0 }, { name := "T_FLOAT", type := .int, accessFlags := 25, slot := 13, constantValue := 0 }, { name := "T_DOUBLE", type := .int, accessFlags := 25, slot := 14, constantValue := 0 }, { name := "T_BYTE", type := .int, accessFlags := 25, slot := 15, constantValue := 0 }, { name := "T_SHORT", type := .int, accessFlags := 25, slot := 16, constantValue := 0 }, { name := "T_INT", type := .int, accessFlags := 25, slot := 17, constantValue := 0 }, { name := "T_LONG", type := .int, accessFlags := 25, slot := 18, constantValue := 0 }, { name := "JLA", type := (.object "jdk/internal/access/JavaLangAccess"), accessFlags := 26, slot := 19, constantValue := 0 }, { name := "SOFT_MAX_ARRAY_LENGTH", type := .int, accessFlags := 25, slot := 20, constantValue := 0 }]
  methods := #[k16m0]
  instanceTypes := #[]
  staticTypes := #[(.object "jdk/internal/misc/Unsafe"), .boolean, .int, .int, .int, .int, .int, .int, .int, .int, .int, .int, .int, .int, .int, .int, .int, .int, .int, (.object "jdk/internal/access/JavaLangAccess"), .int]
  resolved := Array.replicate 378 none
  statics := none }

/-- the primitive byte -/
def k17 : Class := { plain "byte" none with kind := .primitive 'B', accessFlags := 0x411 }
/-- [B -/
def k18 : Class := { plain "[B" (some 0) with kind := .array 17 .byte, interfaces := #[13, 2], accessFlags := 1041 }

/-- the primitive char -/
def k19 : Class := { plain "char" none with kind := .primitive 'C', accessFlags := 0x411 }
/-- [C -/
def k20 : Class := { plain "[C" (some 0) with kind := .array 19 .char, interfaces := #[13, 2], accessFlags := 1041 }

/-- the primitive int -/
def k21 : Class := { plain "int" none with kind := .primitive 'I', accessFlags := 0x411 }
/-- [I -/
def k22 : Class := { plain "[I" (some 0) with kind := .array 21 .int, interfaces := #[13, 2], accessFlags := 1041 }

/-- [Lcom/example/umpire/umpire/xsts/Validity; -/
def k23 : Class := { plain "[Lcom/example/umpire/umpire/xsts/Validity;" (some 0) with kind := .array 12 (.object "com/example/umpire/umpire/xsts/Validity"), interfaces := #[13, 2], accessFlags := 1041 }

def heap : Heap := #[{ cls := 7, slots := #[.long 0, .int 1, .null, .int 0, .null, .int 0, .int 0], vm := .statics 7 },
  { cls := 9, slots := #[.null, .null, .null], vm := .statics 9 },
  { cls := 12, slots := #[.ref 5, .ref 6, .ref 4], vm := .statics 12 },
  { cls := 14, slots := #[.ref 11], vm := .statics 14 },
  { cls := 23, slots := #[.ref 5, .ref 6], vm := .none },
  { cls := 12, slots := #[.null, .int 0, .int 0, .ref 7], vm := .none },
  { cls := 12, slots := #[.null, .int 1, .int 0, .ref 8], vm := .none },
  { cls := 7, slots := #[.ref 9, .int 0, .int 0, .int 0], vm := .none },
  { cls := 7, slots := #[.ref 10, .int 0, .int 0, .int 0], vm := .none },
  { cls := 18, slots := #[.int 118, .int 97, .int 108, .int 105, .int 100], vm := .none },
  { cls := 18, slots := #[.int 105, .int 110, .int 118, .int 97, .int 108, .int 105, .int 100], vm := .none },
  { cls := 14, slots := #[.null], vm := .none }]
def classes : Array Class := #[k0, k1, k2, k3, k4, k5, k6, k7, k8, k9, k10, k11, k12, k13, k14, k15, k16, k17, k18, k19, k20, k21, k22, k23]
def interned : List (Array UInt16 × Addr) := []
def slotsUsed : Nat := 45
def theMethod : MethodId := ⟨1, 2⟩
def args0 : Array Value := #[.int 2, .int 3, .long 4]
def aboutOver (below : List Frame) : State where
  vm := { classes := classes, interned := interned.toArray }
  heap := heap
  slotsUsed := slotsUsed
  threads := #[{ frames := .invoking theMethod args0 :: below }]
def below0 : List Frame := [.native { method := ⟨0, 0⟩, args := #[] }]
def about1 : State := aboutOver below0
def p0 : Program := .bare "" "" ""
def e0 : Env := launch0.env 0 0 0
theorem w_frames : about1.frames = Frame.invoking theMethod args0 :: below0 := rfl
set_option maxRecDepth 65536 in
theorem w_args : argsFit about1.vm theMethod args0 = true := by decide +kernel
set_option maxRecDepth 65536 in
theorem w_heap : heapFits about1 = true := by decide +kernel
set_option maxRecDepth 65536 in
theorem w_runnable : about1.curStatus? = some .runnable := by decide +kernel
set_option maxRecDepth 65536 in
theorem w_alone : about1.alone = true := by decide +kernel
set_option maxRecDepth 65536 in
theorem w_named : about1.methodNamed? x = some theMethod := by decide +kernel
set_option maxRecDepth 65536 in
theorem w_hears : about1.hears theMethod below0 = true := by decide +kernel
set_option maxRecDepth 65536 in
theorem w_ripe : about1.ripe theMethod args0 below0 = true := by decide +kernel
theorem w_running : about1.status = .running := rfl
set_option maxRecDepth 65536 in
theorem w_room : about1.hasRoom e0.platform room_1 = true :=
  launch0.hasRoom_least _ room_1 (by decide +kernel) (by decide +kernel) (by decide +kernel) (by decide +kernel) (by decide +kernel) (by decide +kernel)
theorem allAtoms_all (ts : List Jvm.Cond) (a : Array Jvm.Value) (st : Jvm.State) : (allAtoms ts).before a st = ts.all (fun c => c.before a st) := by
  induction ts with
  | nil => rfl
  | cons c t ih =>
    show (Jvm.Cond.and c (allAtoms t)).before a st = _
    rw [Jvm.Cond.before_and, ih, List.all_cons]
def words1 : List Jvm.Cond := Jvm.Cond.code x code maxLocals ret :: tables_1
/-- a 'code' word, met by the world's own term for the bytes: nothing is compared byte by byte -/
theorem code_word {y : MethodName} {bytes : ByteArray} {mx : Nat} {rt : Option FieldType} {a : Array Value} {s : State} {m : MethodId} {meth : Method} {c : Code} (h1 : s.methodNamed? y = some m) (h2 : s.vm.method? m = some meth) (h3 : meth.code = some c) (h4 : c.code = bytes)
    (h5 : (c.maxLocals == mx && c.exceptionTable.isEmpty && decide (c.maxStack ≤ mostOperands) && decide (meth.sig.returnType = rt) && !meth.locks && decide (parseMethodDescriptor y.desc = some meth.sig)) = true) : (Jvm.Cond.code y bytes mx rt).before a s = true := by
  simp only [Bool.and_eq_true, beq_iff_eq, Bool.not_eq_true', decide_eq_true_eq] at h5
  obtain ⟨⟨⟨⟨⟨g1, g2⟩, g3⟩, g4⟩, g5⟩, g6⟩ := h5
  simp [Cond.before, Cond.holds, Cond.value, h1, h2, h3, h4, g1, g2, g3, g4, g5, g6]
def isCode : Jvm.Cond → Bool
  | .code _ _ _ _ => true
  | _ => false
theorem all_split {L : List Jvm.Cond} {P : Jvm.Cond → Bool} (h1 : L.all (fun c => isCode c || P c) = true) (h2 : ∀ c ∈ L.filter isCode, P c = true) : L.all P = true := by
  refine List.all_eq_true.mpr fun c hc => ?_
  have h := List.all_eq_true.mp h1 c hc
  rcases Bool.eq_false_or_eq_true (isCode c) with hi | hi
  · exact h2 c (List.mem_filter.mpr ⟨hc, hi⟩)
  · simpa [hi] using h
set_option maxRecDepth 65536 in
theorem w_c0 : (Jvm.Cond.code x code maxLocals ret).before args0 about1 = true := code_word (m := ⟨1, 2⟩) (meth := k1m2) (c := k1c2) (by decide +kernel) rfl rfl rfl (by decide +kernel)
set_option maxRecDepth 65536 in
theorem w_c1 : (Jvm.Cond.code ({ cls := "java/lang/String", name := "length", desc := "()I" } : Jvm.MethodName) jdk_42_method_54_code (1 : Nat) (Option.some Jvm.ClassFile.FieldType.int)).before args0 about1 = true := code_word (m := ⟨7, 2⟩) (meth := k7m2) (c := k7c2) (by decide +kernel) rfl rfl rfl (by decide +kernel)
set_option maxRecDepth 65536 in
theorem w_c2 : (Jvm.Cond.code ({ cls := "java/lang/String", name := "coder", desc := "()B" } : Jvm.MethodName) jdk_42_method_152_code (1 : Nat) (Option.some Jvm.ClassFile.FieldType.byte)).before args0 about1 = true := code_word (m := ⟨7, 6⟩) (meth := k7m6) (c := k7c6) (by decide +kernel) rfl rfl rfl (by decide +kernel)
set_option maxRecDepth 65536 in
theorem w_c3 : (Jvm.Cond.code ({ cls := "com/example/umpire/umpire/xsts/ValidityOfPinLaw", name := "ch", desc := "(ILjava/lang/String;IJ)C" } : Jvm.MethodName) method_2_code (7 : Nat) (Option.some Jvm.ClassFile.FieldType.char)).before args0 about1 = true := code_word (m := ⟨1, 1⟩) (meth := k1m1) (c := k1c1) (by decide +kernel) rfl rfl rfl (by decide +kernel)
set_option maxRecDepth 65536 in
theorem w_c4 : (Jvm.Cond.code ({ cls := "java/lang/String", name := "charAt", desc := "(I)C" } : Jvm.MethodName) jdk_42_method_56_code (2 : Nat) (Option.some Jvm.ClassFile.FieldType.char)).before args0 about1 = true := code_word (m := ⟨7, 3⟩) (meth := k7m3) (c := k7c3) (by decide +kernel) rfl rfl rfl (by decide +kernel)
set_option maxRecDepth 65536 in
theorem w_c5 : (Jvm.Cond.code ({ cls := "java/lang/String", name := "isLatin1", desc := "()Z" } : Jvm.MethodName) jdk_42_method_154_code (1 : Nat) (Option.some Jvm.ClassFile.FieldType.boolean)).before args0 about1 = true := code_word (m := ⟨7, 7⟩) (meth := k7m7) (c := k7c7) (by decide +kernel) rfl rfl rfl (by decide +kernel)
set_option maxRecDepth 65536 in
theorem w_c6 : (Jvm.Cond.code ({ cls := "java/lang/StringLatin1", name := "charAt", desc := "([BI)C" } : Jvm.MethodName) jdk_43_method_2_code (2 : Nat) (Option.some Jvm.ClassFile.FieldType.char)).before args0 about1 = true := code_word (m := ⟨8, 1⟩) (meth := k8m1) (c := k8c1) (by decide +kernel) rfl rfl rfl (by decide +kernel)
set_option maxRecDepth 65536 in
theorem w_c7 : (Jvm.Cond.code ({ cls := "java/lang/String", name := "checkIndex", desc := "(II)V" } : Jvm.MethodName) jdk_42_method_155_code (2 : Nat) (Option.none : Option Jvm.ClassFile.FieldType)).before args0 about1 = true := code_word (m := ⟨7, 8⟩) (meth := k7m8) (c := k7c8) (by decide +kernel) rfl rfl rfl (by decide +kernel)
set_option maxRecDepth 65536 in
theorem w_c8 : (Jvm.Cond.code ({ cls := "jdk/internal/util/Preconditions", name := "checkIndex", desc := "(IILjava/util/function/BiFunction;)I" } : Jvm.MethodName) jdk_41_method_11_code (3 : Nat) (Option.some Jvm.ClassFile.FieldType.int)).before args0 about1 = true := code_word (m := ⟨9, 1⟩) (meth := k9m1) (c := k9c1) (by decide +kernel) rfl rfl rfl (by decide +kernel)
set_option maxRecDepth 65536 in
theorem w_c9 : (Jvm.Cond.code ({ cls := "java/lang/String", name := "<init>", desc := "([C)V" } : Jvm.MethodName) jdk_42_method_3_code (2 : Nat) (Option.none : Option Jvm.ClassFile.FieldType)).before args0 about1 = true := code_word (m := ⟨7, 1⟩) (meth := k7m1) (c := k7c1) (by decide +kernel) rfl rfl rfl (by decide +kernel)
set_option maxRecDepth 65536 in
theorem w_c10 : (Jvm.Cond.code ({ cls := "java/lang/String", name := "<init>", desc := "([CIILjava/lang/Void;)V" } : Jvm.MethodName) jdk_42_method_149_code (6 : Nat) (Option.none : Option Jvm.ClassFile.FieldType)).before args0 about1 = true := code_word (m := ⟨7, 5⟩) (meth := k7m5) (c := k7c5) (by decide +kernel) rfl rfl rfl (by decide +kernel)
set_option maxRecDepth 65536 in
theorem w_c11 : (Jvm.Cond.code ({ cls := "java/lang/Object", name := "<init>", desc := "()V" } : Jvm.MethodName) object_method_1_code (1 : Nat) (Option.none : Option Jvm.ClassFile.FieldType)).before args0 about1 = true := code_word (m := ⟨0, 0⟩) (meth := k0m0) (c := k0c0) (by decide +kernel) rfl rfl rfl (by decide +kernel)
set_option maxRecDepth 65536 in
theorem w_c12 : (Jvm.Cond.code ({ cls := "java/lang/StringUTF16", name := "compress", desc := "([CII)[B" } : Jvm.MethodName) jdk_52_method_16_code (6 : Nat) (Option.some (Jvm.ClassFile.FieldType.array Jvm.ClassFile.FieldType.byte))).before args0 about1 = true := code_word (m := ⟨10, 2⟩) (meth := k10m2) (c := k10c2) (by decide +kernel) rfl rfl rfl (by decide +kernel)
set_option maxRecDepth 65536 in
theorem w_c13 : (Jvm.Cond.code ({ cls := "java/lang/StringUTF16", name := "compress", desc := "([CI[BII)I" } : Jvm.MethodName) jdk_52_method_21_code (7 : Nat) (Option.some Jvm.ClassFile.FieldType.int)).before args0 about1 = true := code_word (m := ⟨10, 3⟩) (meth := k10m3) (c := k10c3) (by decide +kernel) rfl rfl rfl (by decide +kernel)
set_option maxRecDepth 65536 in
theorem w_c14 : (Jvm.Cond.code ({ cls := "java/lang/StringUTF16", name := "coderFromArrayLen", desc := "([BI)B" } : Jvm.MethodName) jdk_52_method_15_code (2 : Nat) (Option.some Jvm.ClassFile.FieldType.byte)).before args0 about1 = true := code_word (m := ⟨10, 1⟩) (meth := k10m1) (c := k10c1) (by decide +kernel) rfl rfl rfl (by decide +kernel)
set_option maxRecDepth 65536 in
theorem w_c15 : (Jvm.Cond.code ({ cls := "java/lang/String", name := "equals", desc := "(Ljava/lang/Object;)Z" } : Jvm.MethodName) jdk_42_method_66_code (3 : Nat) (Option.some Jvm.ClassFile.FieldType.boolean)).before args0 about1 = true := code_word (m := ⟨7, 4⟩) (meth := k7m4) (c := k7c4) (by decide +kernel) rfl rfl rfl (by decide +kernel)
set_option maxRecDepth 65536 in
theorem w_c16 : (Jvm.Cond.code ({ cls := "java/lang/StringLatin1", name := "equals", desc := "([B[B)Z" } : Jvm.MethodName) jdk_43_method_13_code (3 : Nat) (Option.some Jvm.ClassFile.FieldType.boolean)).before args0 about1 = true := code_word (m := ⟨8, 2⟩) (meth := k8m2) (c := k8c2) (by decide +kernel) rfl rfl rfl (by decide +kernel)
set_option maxRecDepth 65536 in
theorem w_c17 : (Jvm.Cond.code ({ cls := "com/example/umpire/umpire/xsts/Validity", name := "of", desc := "(Ljava/lang/String;)Ljava/util/Optional;" } : Jvm.MethodName) prog_52_method_6_code (5 : Nat) (Option.some (Jvm.ClassFile.FieldType.object "java/util/Optional"))).before args0 about1 = true := code_word (m := ⟨12, 1⟩) (meth := k12m1) (c := k12c1) (by decide +kernel) rfl rfl rfl (by decide +kernel)
set_option maxRecDepth 65536 in
theorem w_c18 : (Jvm.Cond.code ({ cls := "com/example/umpire/umpire/xsts/Validity", name := "values", desc := "()[Lcom/example/umpire/umpire/xsts/Validity;" } : Jvm.MethodName) prog_52_method_1_code (0 : Nat) (Option.some (Jvm.ClassFile.FieldType.array (Jvm.ClassFile.FieldType.object "com/example/umpire/umpire/xsts/Validity")))).before args0 about1 = true := code_word (m := ⟨12, 0⟩) (meth := k12m0) (c := k12c0) (by decide +kernel) rfl rfl rfl (by decide +kernel)
set_option maxRecDepth 65536 in
theorem w_c19 : (Jvm.Cond.code ({ cls := "java/util/Optional", name := "of", desc := "(Ljava/lang/Object;)Ljava/util/Optional;" } : Jvm.MethodName) jdk_32_method_3_code (1 : Nat) (Option.some (Jvm.ClassFile.FieldType.object "java/util/Optional"))).before args0 about1 = true := code_word (m := ⟨14, 2⟩) (meth := k14m2) (c := k14c2) (by decide +kernel) rfl rfl rfl (by decide +kernel)
set_option maxRecDepth 65536 in
theorem w_c20 : (Jvm.Cond.code ({ cls := "java/util/Objects", name := "requireNonNull", desc := "(Ljava/lang/Object;)Ljava/lang/Object;" } : Jvm.MethodName) jdk_31_method_10_code (1 : Nat) (Option.some (Jvm.ClassFile.FieldType.object "java/lang/Object"))).before args0 about1 = true := code_word (m := ⟨15, 1⟩) (meth := k15m1) (c := k15c1) (by decide +kernel) rfl rfl rfl (by decide +kernel)
set_option maxRecDepth 65536 in
theorem w_c21 : (Jvm.Cond.code ({ cls := "java/util/Optional", name := "<init>", desc := "(Ljava/lang/Object;)V" } : Jvm.MethodName) jdk_32_method_2_code (2 : Nat) (Option.none : Option Jvm.ClassFile.FieldType)).before args0 about1 = true := code_word (m := ⟨14, 1⟩) (meth := k14m1) (c := k14c1) (by decide +kernel) rfl rfl rfl (by decide +kernel)
set_option maxRecDepth 65536 in
theorem w_c22 : (Jvm.Cond.code ({ cls := "java/util/Optional", name := "orElse", desc := "(Ljava/lang/Object;)Ljava/lang/Object;" } : Jvm.MethodName) jdk_32_method_15_code (2 : Nat) (Option.some (Jvm.ClassFile.FieldType.object "java/lang/Object"))).before args0 about1 = true := code_word (m := ⟨14, 3⟩) (meth := k14m3) (c := k14c3) (by decide +kernel) rfl rfl rfl (by decide +kernel)
set_option maxRecDepth 65536 in
theorem w_c23 : (Jvm.Cond.code ({ cls := "java/util/Optional", name := "empty", desc := "()Ljava/util/Optional;" } : Jvm.MethodName) jdk_32_method_1_code (1 : Nat) (Option.some (Jvm.ClassFile.FieldType.object "java/util/Optional"))).before args0 about1 = true := code_word (m := ⟨14, 0⟩) (meth := k14m0) (c := k14c0) (by decide +kernel) rfl rfl rfl (by decide +kernel)
def codes1 : List Jvm.Cond := [Jvm.Cond.code x code maxLocals ret, Jvm.Cond.code ({ cls := "java/lang/String", name := "length", desc := "()I" } : Jvm.MethodName) jdk_42_method_54_code (1 : Nat) (Option.some Jvm.ClassFile.FieldType.int), Jvm.Cond.code ({ cls := "java/lang/String", name := "coder", desc := "()B" } : Jvm.MethodName) jdk_42_method_152_code (1 : Nat) (Option.some Jvm.ClassFile.FieldType.byte), Jvm.Cond.code ({ cls := "com/example/umpire/umpire/xsts/ValidityOfPinLaw", name := "ch", desc := "(ILjava/lang/String;IJ)C" } : Jvm.MethodName) method_2_code (7 : Nat) (Option.some Jvm.ClassFile.FieldType.char), Jvm.Cond.code ({ cls := "java/lang/String", name := "charAt", desc := "(I)C" } : Jvm.MethodName) jdk_42_method_56_code (2 : Nat) (Option.some Jvm.ClassFile.FieldType.char), Jvm.Cond.code ({ cls := "java/lang/String", name := "isLatin1", desc := "()Z" } : Jvm.MethodName) jdk_42_method_154_code (1 : Nat) (Option.some Jvm.ClassFile.FieldType.boolean), Jvm.Cond.code ({ cls := "java/lang/StringLatin1", name := "charAt", desc := "([BI)C" } : Jvm.MethodName) jdk_43_method_2_code (2 : Nat) (Option.some Jvm.ClassFile.FieldType.char), Jvm.Cond.code ({ cls := "java/lang/String", name := "checkIndex", desc := "(II)V" } : Jvm.MethodName) jdk_42_method_155_code (2 : Nat) (Option.none : Option Jvm.ClassFile.FieldType), Jvm.Cond.code ({ cls := "jdk/internal/util/Preconditions", name := "checkIndex", desc := "(IILjava/util/function/BiFunction;)I" } : Jvm.MethodName) jdk_41_method_11_code (3 : Nat) (Option.some Jvm.ClassFile.FieldType.int), Jvm.Cond.code ({ cls := "java/lang/String", name := "<init>", desc := "([C)V" } : Jvm.MethodName) jdk_42_method_3_code (2 : Nat) (Option.none : Option Jvm.ClassFile.FieldType), Jvm.Cond.code ({ cls := "java/lang/String", name := "<init>", desc := "([CIILjava/lang/Void;)V" } : Jvm.MethodName) jdk_42_method_149_code (6 : Nat) (Option.none : Option Jvm.ClassFile.FieldType), Jvm.Cond.code ({ cls := "java/lang/Object", name := "<init>", desc := "()V" } : Jvm.MethodName) object_method_1_code (1 : Nat) (Option.none : Option Jvm.ClassFile.FieldType), Jvm.Cond.code ({ cls := "java/lang/StringUTF16", name := "compress", desc := "([CII)[B" } : Jvm.MethodName) jdk_52_method_16_code (6 : Nat) (Option.some (Jvm.ClassFile.FieldType.array Jvm.ClassFile.FieldType.byte)), Jvm.Cond.code ({ cls := "java/lang/StringUTF16", name := "compress", desc := "([CI[BII)I" } : Jvm.MethodName) jdk_52_method_21_code (7 : Nat) (Option.some Jvm.ClassFile.FieldType.int), Jvm.Cond.code ({ cls := "java/lang/StringUTF16", name := "coderFromArrayLen", desc := "([BI)B" } : Jvm.MethodName) jdk_52_method_15_code (2 : Nat) (Option.some Jvm.ClassFile.FieldType.byte), Jvm.Cond.code ({ cls := "java/lang/String", name := "equals", desc := "(Ljava/lang/Object;)Z" } : Jvm.MethodName) jdk_42_method_66_code (3 : Nat) (Option.some Jvm.ClassFile.FieldType.boolean), Jvm.Cond.code ({ cls := "java/lang/StringLatin1", name := "equals", desc := "([B[B)Z" } : Jvm.MethodName) jdk_43_method_13_code (3 : Nat) (Option.some Jvm.ClassFile.FieldType.boolean), Jvm.Cond.code ({ cls := "com/example/umpire/umpire/xsts/Validity", name := "of", desc := "(Ljava/lang/String;)Ljava/util/Optional;" } : Jvm.MethodName) prog_52_method_6_code (5 : Nat) (Option.some (Jvm.ClassFile.FieldType.object "java/util/Optional")), Jvm.Cond.code ({ cls := "com/example/umpire/umpire/xsts/Validity", name := "values", desc := "()[Lcom/example/umpire/umpire/xsts/Validity;" } : Jvm.MethodName) prog_52_method_1_code (0 : Nat) (Option.some (Jvm.ClassFile.FieldType.array (Jvm.ClassFile.FieldType.object "com/example/umpire/umpire/xsts/Validity"))), Jvm.Cond.code ({ cls := "java/util/Optional", name := "of", desc := "(Ljava/lang/Object;)Ljava/util/Optional;" } : Jvm.MethodName) jdk_32_method_3_code (1 : Nat) (Option.some (Jvm.ClassFile.FieldType.object "java/util/Optional")), Jvm.Cond.code ({ cls := "java/util/Objects", name := "requireNonNull", desc := "(Ljava/lang/Object;)Ljava/lang/Object;" } : Jvm.MethodName) jdk_31_method_10_code (1 : Nat) (Option.some (Jvm.ClassFile.FieldType.object "java/lang/Object")), Jvm.Cond.code ({ cls := "java/util/Optional", name := "<init>", desc := "(Ljava/lang/Object;)V" } : Jvm.MethodName) jdk_32_method_2_code (2 : Nat) (Option.none : Option Jvm.ClassFile.FieldType), Jvm.Cond.code ({ cls := "java/util/Optional", name := "orElse", desc := "(Ljava/lang/Object;)Ljava/lang/Object;" } : Jvm.MethodName) jdk_32_method_15_code (2 : Nat) (Option.some (Jvm.ClassFile.FieldType.object "java/lang/Object")), Jvm.Cond.code ({ cls := "java/util/Optional", name := "empty", desc := "()Ljava/util/Optional;" } : Jvm.MethodName) jdk_32_method_1_code (1 : Nat) (Option.some (Jvm.ClassFile.FieldType.object "java/util/Optional"))]
set_option maxRecDepth 65536 in
theorem codes_eq : words1.filter isCode = codes1 := rfl
theorem w_codes : ∀ c ∈ words1.filter isCode, c.before args0 about1 = true := by
  rw [codes_eq]
  intro c hc
  simp only [codes1, List.mem_cons, List.not_mem_nil, or_false] at hc
  rcases hc with rfl | rfl | rfl | rfl | rfl | rfl | rfl | rfl | rfl | rfl | rfl | rfl | rfl | rfl | rfl | rfl | rfl | rfl | rfl | rfl | rfl | rfl | rfl | rfl
  · exact w_c0
  · exact w_c1
  · exact w_c2
  · exact w_c3
  · exact w_c4
  · exact w_c5
  · exact w_c6
  · exact w_c7
  · exact w_c8
  · exact w_c9
  · exact w_c10
  · exact w_c11
  · exact w_c12
  · exact w_c13
  · exact w_c14
  · exact w_c15
  · exact w_c16
  · exact w_c17
  · exact w_c18
  · exact w_c19
  · exact w_c20
  · exact w_c21
  · exact w_c22
  · exact w_c23
set_option maxRecDepth 65536 in
theorem w_t1 : (words1.take 24).all (fun c => isCode c || c.before args0 about1) = true := by decide +kernel
set_option maxRecDepth 65536 in
theorem w_t2 : ((words1.drop 24).take 24).all (fun c => isCode c || c.before args0 about1) = true := by decide +kernel
set_option maxRecDepth 65536 in
theorem w_t3 : (((words1.drop 24).drop 24).take 24).all (fun c => isCode c || c.before args0 about1) = true := by decide +kernel
set_option maxRecDepth 65536 in
theorem w_t4 : ((((words1.drop 24).drop 24).drop 24).take 24).all (fun c => isCode c || c.before args0 about1) = true := by decide +kernel
set_option maxRecDepth 65536 in
theorem w_t5 : (((((words1.drop 24).drop 24).drop 24).drop 24).take 24).all (fun c => isCode c || c.before args0 about1) = true := by decide +kernel
set_option maxRecDepth 65536 in
theorem w_t6 : (((((words1.drop 24).drop 24).drop 24).drop 24).drop 24).all (fun c => isCode c || c.before args0 about1) = true := by decide +kernel
theorem w_tables : (allAtoms (Jvm.Cond.code x code maxLocals ret :: tables_1)).before args0 about1 = true := by
  rw [allAtoms_all]
  show words1.all (fun c => c.before args0 about1) = true
  refine all_split ?_ w_codes
  rw [← List.take_append_drop 24 words1, List.all_append, w_t1, ← List.take_append_drop 24 (words1.drop 24), List.all_append, w_t2, ← List.take_append_drop 24 ((words1.drop 24).drop 24), List.all_append, w_t3, ← List.take_append_drop 24 (((words1.drop 24).drop 24).drop 24), List.all_append, w_t4, ← List.take_append_drop 24 ((((words1.drop 24).drop 24).drop 24).drop 24), List.all_append, w_t5, w_t6]
  rfl
set_option maxRecDepth 65536 in
theorem w_rest : rest_1_c.before args0 about1 = true := by decide +kernel
set_option maxRecDepth 65536 in
theorem w_case : (Jvm.Cond.and given_1 narrow_1).before args0 about1 = true := by decide +kernel
set_option maxRecDepth 65536 in
theorem w_consts : constsHeld consts_1 about1 := Jvm.Lit.constsHeldB_iff.mp (by decide +kernel)
theorem w_applies : (headSpec (Jvm.Cond.code x code maxLocals ret :: tables_1) room_1).applies x e0.platform about1 = true :=
  (Spec.applies_iff w_frames).mpr ⟨w_running, w_runnable, w_alone, w_named, w_hears, w_ripe, w_room, w_tables⟩
set_option maxRecDepth 65536 in
theorem atStart : AtStart classFile x code maxLocals ret World_1 tables_1 room_1 Calls_1 rest_1 Pre_1 launch0 p0 e0 about1 theMethod args0 below0 :=
  ⟨lists_1, trivial, launch0.admits_env _ _ _, launch0.least_env, fairChoices_fair.cas, fairChoices_fair.clock, w_frames, w_args, w_heap, w_applies, ⟨w_consts, trivial⟩, w_rest, w_case⟩
end start1
theorem witness_1 : WitnessClaimed_1 := ⟨start1.p0, start1.e0, start1.about1, start1.theMethod, start1.args0, start1.below0, start1.atStart⟩
end Jvm.Pilot.@@N@@
