import JvmDerived
import JvmDerived.Pilot.@@N@@Statement
import JvmDerived.Pilot.@@N@@Code
set_option linter.unusedVariables false
set_option linter.unusedSimpArgs false
@@BLOCK:NumsL.lean.txt@@
namespace Jvm.Pilot.@@N@@
open Jvm Jvm.ClassFile Sem Op Lib Jvm.Free Jvm.Stand Jvm.LawKit Jvm.RoadKit Bundle Jvm.Pilot.@@N@@.Jvm.D

section OwnKit
variable {p : Program} {l : Launch} {e : Env} {R : Room} {s : State} {m : MethodId} {args : Array Value} {below : List Frame} {meth : Method} {c : Code} {T : State} {locs : List Loc} {cells slots : Nat}
def own_Go (p : Program) (e : Env) (below : List Frame) (s : State) (Q : Option Value → Heap → List Loc → Prop) (rc rs : Nat) (T : State) (g : JFrame) : Prop :=
  ∃ s₂ o, Steps p.tables e below (T.setTop g) s₂ ∧ s₂.status = .running ∧ Ended s₂ below o ∧ ∃ v L, o = .returned v ∧ Q v s₂.heap L ∧ FrameEnd s o s₂ L rc rs
variable {Q : Option Value → Heap → List Loc → Prop} {rc rs : Nat} {T' : State} {g g' : JFrame}
theorem own_step (st : ∀ target, Steps p.tables e below (T'.setTop g') target → Steps p.tables e below (T.setTop g) target) (k : own_Go p e below s Q rc rs T' g') : own_Go p e below s Q rc rs T g := by
  obtain ⟨s₂, o, h1, h2⟩ := k
  exact ⟨s₂, o, st _ h1, h2⟩
theorem own_tr (st : Steps p.tables e below (T.setTop g) (T'.setTop g')) (k : own_Go p e below s Q rc rs T' g') : own_Go p e below s Q rc rs T g := by
  obtain ⟨s₂, o, h1, h2⟩ := k
  exact ⟨s₂, o, st.trans h1, h2⟩
theorem own_cast (q : g = g') (k : own_Go p e below s Q rc rs T g') : own_Go p e below s Q rc rs T g := q ▸ k
theorem own_done (X : Stand p l e R s m args below meth c T locs cells slots) {v : Option Value} (hv : meth.sig.returnType = none → v = none) (hlk : meth.locks = false)
    (st : ∀ fs, (∀ (f : JFrame) (acts : List Action), f.method = m → f.locked = none → f.entered = [] → (doReturn e (T.setTop f) acts v).1 = T.setFrames fs) → Steps p.tables e below (T.setTop g) (T.setFrames fs))
    (hQ : Q v T.heap locs) (hc : cells ≤ rc) (hs : slots ≤ rs) : own_Go p e below s Q rc rs T g := by
  obtain ⟨fs, hr, hrun, hended, hW, hsame⟩ := X.leave (v := v) hv hlk
  exact ⟨_, _, st fs hr, hrun, hended, v, locs, rfl, hQ, ⟨_, rfl⟩, hW, hsame.mono hc hs⟩
theorem own_rN (X : Stand p l e R s m args below meth c T locs cells slots) (hx : p.tables.exec = Jvm.exec) (hlk : meth.locks = false) {t : FieldType} (hret : meth.sig.returnType = some t) (ht : t = .boolean ∨ t = .byte ∨ t = .char ∨ t = .short) {pc : Nat} {Ls : Array Slot} {z : Int32} {rest : List Value}
    (hd : decode c.code pc = .ok (.ireturn, 1)) (hQ : Q (some (.int (nar t z))) T.heap locs) (hc : cells ≤ rc) (hs : slots ≤ rs) : own_Go p e below s Q rc rs T (mkF m pc Ls (.int z :: rest)) :=
  own_done X (fun h => by rw [hret] at h; cases h) hlk (fun fs hr => retN X hx hret ht hd hr) hQ hc hs
theorem own_rI (X : Stand p l e R s m args below meth c T locs cells slots) (hx : p.tables.exec = Jvm.exec) (hlk : meth.locks = false) (hret : meth.sig.returnType = some .int) {pc : Nat} {Ls : Array Slot} {z : Int32} {rest : List Value}
    (hd : decode c.code pc = .ok (.ireturn, 1)) (hQ : Q (some (.int z)) T.heap locs) (hc : cells ≤ rc) (hs : slots ≤ rs) : own_Go p e below s Q rc rs T (mkF m pc Ls (.int z :: rest)) :=
  own_done X (fun h => by rw [hret] at h; cases h) hlk (fun fs hr => retOut X hx hret rfl (Or.inl ⟨rfl, Or.inl rfl, _, rfl⟩) hd hr) hQ hc hs
theorem own_rJ (X : Stand p l e R s m args below meth c T locs cells slots) (hx : p.tables.exec = Jvm.exec) (hlk : meth.locks = false) (hret : meth.sig.returnType = some .long) {pc : Nat} {Ls : Array Slot} {z : Int64} {rest : List Value}
    (hd : decode c.code pc = .ok (.lreturn, 1)) (hQ : Q (some (.long z)) T.heap locs) (hc : cells ≤ rc) (hs : slots ≤ rs) : own_Go p e below s Q rc rs T (mkF m pc Ls (.long z :: rest)) :=
  own_done X (fun h => by rw [hret] at h; cases h) hlk (fun fs hr => retOut X hx hret rfl (Or.inr (Or.inl ⟨rfl, rfl, _, rfl⟩)) hd hr) hQ hc hs
theorem own_narA {t : FieldType} {w : Value} (ht : t.isReference = true) (hw : w.isRef = true) : narrow t w = w := by cases t <;> cases w <;> first | rfl | cases ht | cases hw
theorem own_rA (X : Stand p l e R s m args below meth c T locs cells slots) (hx : p.tables.exec = Jvm.exec) (hlk : meth.locks = false) {t : FieldType} (hret : meth.sig.returnType = some t) (ht : t.isReference = true) {pc : Nat} {Ls : Array Slot} {w : Value} {rest : List Value} (hw : w.isRef = true)
    (hd : decode c.code pc = .ok (.areturn, 1)) (hQ : Q (some w) T.heap locs) (hc : cells ≤ rc) (hs : slots ≤ rs) : own_Go p e below s Q rc rs T (mkF m pc Ls (w :: rest)) :=
  own_done X (fun h => by rw [hret] at h; cases h) hlk (fun fs hr => retOut X hx hret (own_narA ht hw) (Or.inr (Or.inr (Or.inr (Or.inr ⟨rfl, ht, hw⟩)))) hd hr) hQ hc hs
theorem own_rV (X : Stand p l e R s m args below meth c T locs cells slots) (hx : p.tables.exec = Jvm.exec) (hlk : meth.locks = false) (hret : meth.sig.returnType = none) {pc : Nat} {Ls : Array Slot}
    (hd : decode c.code pc = .ok (.return_, 1)) (hQ : Q none T.heap locs) (hc : cells ≤ rc) (hs : slots ≤ rs) : own_Go p e below s Q rc rs T (mkF m pc Ls []) :=
  own_done X (fun _ => rfl) hlk (fun fs hr => X.returnOut hx hret hd hr) hQ hc hs
end OwnKit
def own_ccP (x : Int32) : Prop := x = 9 ∨ x = 10 ∨ x = 13 ∨ (¬ x < 32 ∧ ¬ 55295 < x) ∨ (¬ x < 57344 ∧ ¬ 65533 < x) ∨ (¬ x < 65536 ∧ ¬ 1114111 < x)
instance (x : Int32) : Decidable (own_ccP x) := by unfold own_ccP; infer_instance
def own_cc (x : Int32) : Int32 := if own_ccP x then 1 else 0
def Q_cc (p1 : Int32) (h0 : Heap) (n0 : Nat) (v : Option Value) (h : Heap) (L : List Loc) : Prop := v = some (.int (own_cc p1)) ∧ Fr n0 L ∧ h = h0
theorem ef_rm_cc (m : MethodId) (x0 : Int32) : entryFrame m #[(.int x0)] 1 = mkF m 0 #[.val (.int x0)] [] := by first | rfl | (simp [entryFrame, mkF, argsToLocals, Value.category]; done) | (simp [entryFrame, mkF, argsToLocals, Value.category] <;> rfl)
theorem pn_0 : plainName "com/example/charter_for_federations/charterforfederations/xmlrpc/ResponseWriter" = true := by first | (simp [plainName, overriddenIn]; done) | decide +kernel
theorem d1_0 : decode prog_39_method_4_code 0 = .ok (.iload_n 0, 1) := by decide +kernel
theorem d1_1 : decode prog_39_method_4_code 1 = .ok (.bipush 9, 2) := by decide +kernel
theorem d1_3 : decode prog_39_method_4_code 3 = .ok (.if_icmp .eq 51, 3) := by decide +kernel
theorem d1_54 : decode prog_39_method_4_code 54 = .ok (.iconst 1, 1) := by decide +kernel
theorem d1_55 : decode prog_39_method_4_code 55 = .ok (.goto 4, 3) := by decide +kernel
theorem d1_59 : decode prog_39_method_4_code 59 = .ok (.ireturn, 1) := by decide +kernel
theorem d1_58 : decode prog_39_method_4_code 58 = .ok (.iconst 0, 1) := by decide +kernel
theorem d1_6 : decode prog_39_method_4_code 6 = .ok (.iload_n 0, 1) := by decide +kernel
theorem d1_7 : decode prog_39_method_4_code 7 = .ok (.bipush 10, 2) := by decide +kernel
theorem d1_9 : decode prog_39_method_4_code 9 = .ok (.if_icmp .eq 45, 3) := by decide +kernel
theorem d1_12 : decode prog_39_method_4_code 12 = .ok (.iload_n 0, 1) := by decide +kernel
theorem d1_13 : decode prog_39_method_4_code 13 = .ok (.bipush 13, 2) := by decide +kernel
theorem d1_15 : decode prog_39_method_4_code 15 = .ok (.if_icmp .eq 39, 3) := by decide +kernel
theorem d1_18 : decode prog_39_method_4_code 18 = .ok (.iload_n 0, 1) := by decide +kernel
theorem d1_19 : decode prog_39_method_4_code 19 = .ok (.bipush 32, 2) := by decide +kernel
theorem d1_21 : decode prog_39_method_4_code 21 = .ok (.if_icmp .lt 9, 3) := by decide +kernel
theorem d1_30 : decode prog_39_method_4_code 30 = .ok (.iload_n 0, 1) := by decide +kernel
theorem d1_31 : decode prog_39_method_4_code 31 = .ok (.ldc 68, 2) := by decide +kernel
theorem d1_33 : decode prog_39_method_4_code 33 = .ok (.if_icmp .lt 9, 3) := by decide +kernel
theorem d1_42 : decode prog_39_method_4_code 42 = .ok (.iload_n 0, 1) := by decide +kernel
theorem d1_43 : decode prog_39_method_4_code 43 = .ok (.ldc 70, 2) := by decide +kernel
theorem d1_45 : decode prog_39_method_4_code 45 = .ok (.if_icmp .lt 13, 3) := by decide +kernel
theorem d1_48 : decode prog_39_method_4_code 48 = .ok (.iload_n 0, 1) := by decide +kernel
theorem d1_49 : decode prog_39_method_4_code 49 = .ok (.ldc 71, 2) := by decide +kernel
theorem d1_51 : decode prog_39_method_4_code 51 = .ok (.if_icmp .gt 7, 3) := by decide +kernel
theorem d1_36 : decode prog_39_method_4_code 36 = .ok (.iload_n 0, 1) := by decide +kernel
theorem d1_37 : decode prog_39_method_4_code 37 = .ok (.ldc 69, 2) := by decide +kernel
theorem d1_39 : decode prog_39_method_4_code 39 = .ok (.if_icmp .le 15, 3) := by decide +kernel
theorem d1_24 : decode prog_39_method_4_code 24 = .ok (.iload_n 0, 1) := by decide +kernel
theorem d1_25 : decode prog_39_method_4_code 25 = .ok (.ldc 67, 2) := by decide +kernel
theorem d1_27 : decode prog_39_method_4_code 27 = .ok (.if_icmp .le 27, 3) := by decide +kernel
set_option maxRecDepth 65536 in
set_option maxHeartbeats 40000000 in
theorem rm_cc (l : Launch) (Z : State) (a0 : Array Value) (hw : ∀ d ∈ tables_1, d.before a0 Z = true) (ws : List Jvm.Cond) (p1 : Int32) (h0 : Heap) (n0 : Nat) (Z0 : n0 ≤ h0.size)  :
    MetFree l (⟨"com/example/charter_for_federations/charterforfederations/xmlrpc/ResponseWriter", "canCarry", "(I)Z"⟩ : MethodName) (head1 (Jvm.Cond.code (⟨"com/example/charter_for_federations/charterforfederations/xmlrpc/ResponseWriter", "canCarry", "(I)Z"⟩ : MethodName) prog_39_method_4_code 1 (some (.boolean)) :: ws) ({ frames := 0, cells := 0, slots := 0, locals := 0 } : Room)) (fun a U => a = #[(.int p1)] ∧ Z.Warmed39 U.vm ∧ U.heap = h0) (fun _ _ _ _ _ => True) (fun _ U o U' => ∃ v L, o = .returned v ∧ (Q_cc p1 h0 n0) v U'.heap L ∧ FrameEnd U o U' L ({ frames := 0, cells := 0, slots := 0, locals := 0 } : Room).cells ({ frames := 0, cells := 0, slots := 0, locals := 0 } : Room).slots) := by
  refine MetFree.of_bodySF (plainFor_of_name pn_0) hisR ?_
  intro p e s m args below meth c s₁ Bd hml0 hP hK
  obtain ⟨rfl, hZ, hh⟩ := hP
  have hx := Bd.exec
  have hby := Bd.bytes
  have hlk : meth.locks = false := BodyLoose.notSynchronized Bd
  have hml : c.maxLocals = 1 := hml0
  have hown : s.vm.findClass "com/example/charter_for_federations/charterforfederations/xmlrpc/ResponseWriter" = some m.cls := findClass_of_methodNamed Bd.named
  have hnm := (name_of_methodNamed Bd.named Bd.method).1
  have X0 : Stand p l e ({ frames := 0, cells := 0, slots := 0, locals := 0 } : Room) s m #[(.int p1)] below meth c s₁ [] 0 0 := Stand.of_body Bd
  have e0 : s₁.heap = h0 := by rw [← hh, Bd.state]; rfl
  have N0 := Fr.nil n0
  show own_Go p e below s (Q_cc p1 h0 n0) ({ frames := 0, cells := 0, slots := 0, locals := 0 } : Room).cells ({ frames := 0, cells := 0, slots := 0, locals := 0 } : Room).slots s₁ (entryFrame m #[(.int p1)] 1)
  refine own_cast (g' := (mkF m 0 #[.val (.int p1)] [])) (ef_rm_cc m p1) ?_
  refine own_step (T' := s₁) (g' := (mkF m 1 #[.val (.int p1)] [(.int p1)])) (fun t k => XS.iloadN X0.here hx rfl (hb hby d1_0) rfl k) ?_
  refine own_step (T' := s₁) (g' := (mkF m 3 #[.val (.int p1)] [(.int (9 : Int32)), (.int p1)])) (fun t k => XS.bipush X0.here hx rfl (hb hby d1_1) k) ?_
  have j54 : own_ccP p1 → own_Go p e below s (Q_cc p1 h0 n0) ({ frames := 0, cells := 0, slots := 0, locals := 0 } : Room).cells ({ frames := 0, cells := 0, slots := 0, locals := 0 } : Room).slots s₁ (mkF m 54 #[.val (.int p1)] []) := by
    intro hq
    refine own_step (T' := s₁) (g' := (mkF m 55 #[.val (.int p1)] [(.int (1 : Int32))])) (fun t k => XS.iconst X0.here hx rfl (hb hby d1_54) k) ?_
    refine own_step (T' := s₁) (g' := (mkF m 59 #[.val (.int p1)] [(.int (1 : Int32))])) (fun t k => XS.goto X0.here hx rfl (pc0 := 55) (pc' := 59) rfl (hb hby d1_55) (by decide) (by decide) k) ?_
    refine own_rN X0 hx hlk Bd.returns (by simp) (hb hby d1_59) ?_ (by decide) (by decide)
    rw [e0]
    exact ⟨by simp only [own_cc, hq, if_true, if_false]; rfl, N0, rfl⟩
  have j58 : ¬ own_ccP p1 → own_Go p e below s (Q_cc p1 h0 n0) ({ frames := 0, cells := 0, slots := 0, locals := 0 } : Room).cells ({ frames := 0, cells := 0, slots := 0, locals := 0 } : Room).slots s₁ (mkF m 58 #[.val (.int p1)] []) := by
    intro hq
    refine own_step (T' := s₁) (g' := (mkF m 59 #[.val (.int p1)] [(.int (0 : Int32))])) (fun t k => XS.iconst X0.here hx rfl (hb hby d1_58) k) ?_
    refine own_rN X0 hx hlk Bd.returns (by simp) (hb hby d1_59) ?_ (by decide) (by decide)
    rw [e0]
    exact ⟨by simp only [own_cc, hq, if_true, if_false]; rfl, N0, rfl⟩
  by_cases c3 : p1 = (9 : Int32)
  · refine own_step (T' := s₁) (g' := (mkF m 54 #[.val (.int p1)] [])) (fun t k => XS.icmpYes X0.here hx rfl (pc0 := 3) (pc' := 54) rfl (hb hby d1_3) rfl (teq c3).1 (by decide) (by decide) k) ?_
    exact j54 (by unfold own_ccP; exact Or.inl c3)
  · refine own_step (T' := s₁) (g' := (mkF m 6 #[.val (.int p1)] [])) (fun t k => XS.icmpNo X0.here hx rfl (hb hby d1_3) rfl (feq c3).1 k) ?_
    refine own_step (T' := s₁) (g' := (mkF m 7 #[.val (.int p1)] [(.int p1)])) (fun t k => XS.iloadN X0.here hx rfl (hb hby d1_6) rfl k) ?_
    refine own_step (T' := s₁) (g' := (mkF m 9 #[.val (.int p1)] [(.int (10 : Int32)), (.int p1)])) (fun t k => XS.bipush X0.here hx rfl (hb hby d1_7) k) ?_
    by_cases c9 : p1 = (10 : Int32)
    · refine own_step (T' := s₁) (g' := (mkF m 54 #[.val (.int p1)] [])) (fun t k => XS.icmpYes X0.here hx rfl (pc0 := 9) (pc' := 54) rfl (hb hby d1_9) rfl (teq c9).1 (by decide) (by decide) k) ?_
      exact j54 (by unfold own_ccP; exact Or.inr (Or.inl c9))
    · refine own_step (T' := s₁) (g' := (mkF m 12 #[.val (.int p1)] [])) (fun t k => XS.icmpNo X0.here hx rfl (hb hby d1_9) rfl (feq c9).1 k) ?_
      refine own_step (T' := s₁) (g' := (mkF m 13 #[.val (.int p1)] [(.int p1)])) (fun t k => XS.iloadN X0.here hx rfl (hb hby d1_12) rfl k) ?_
      refine own_step (T' := s₁) (g' := (mkF m 15 #[.val (.int p1)] [(.int (13 : Int32)), (.int p1)])) (fun t k => XS.bipush X0.here hx rfl (hb hby d1_13) k) ?_
      by_cases c15 : p1 = (13 : Int32)
      · refine own_step (T' := s₁) (g' := (mkF m 54 #[.val (.int p1)] [])) (fun t k => XS.icmpYes X0.here hx rfl (pc0 := 15) (pc' := 54) rfl (hb hby d1_15) rfl (teq c15).1 (by decide) (by decide) k) ?_
        exact j54 (by unfold own_ccP; exact Or.inr (Or.inr (Or.inl c15)))
      · refine own_step (T' := s₁) (g' := (mkF m 18 #[.val (.int p1)] [])) (fun t k => XS.icmpNo X0.here hx rfl (hb hby d1_15) rfl (feq c15).1 k) ?_
        refine own_step (T' := s₁) (g' := (mkF m 19 #[.val (.int p1)] [(.int p1)])) (fun t k => XS.iloadN X0.here hx rfl (hb hby d1_18) rfl k) ?_
        refine own_step (T' := s₁) (g' := (mkF m 21 #[.val (.int p1)] [(.int (32 : Int32)), (.int p1)])) (fun t k => XS.bipush X0.here hx rfl (hb hby d1_19) k) ?_
        by_cases c21 : p1 < (32 : Int32)
        · refine own_step (T' := s₁) (g' := (mkF m 30 #[.val (.int p1)] [])) (fun t k => XS.icmpYes X0.here hx rfl (pc0 := 21) (pc' := 30) rfl (hb hby d1_21) rfl (tlt c21).1 (by decide) (by decide) k) ?_
          refine own_step (T' := s₁) (g' := (mkF m 31 #[.val (.int p1)] [(.int p1)])) (fun t k => XS.iloadN X0.here hx rfl (hb hby d1_30) rfl k) ?_
          refine own_step (T' := s₁) (g' := (mkF m 33 #[.val (.int p1)] [(.int (57344 : Int32)), (.int p1)])) (X0.ldcInt hx hown (mvT hZ (hw _ (List.mem_of_getElem? (i := 16) rfl))) (g := (mkF m 31 #[.val (.int p1)] [(.int p1)])) rfl (hb hby d1_31)) ?_
          by_cases c33 : p1 < (57344 : Int32)
          · refine own_step (T' := s₁) (g' := (mkF m 42 #[.val (.int p1)] [])) (fun t k => XS.icmpYes X0.here hx rfl (pc0 := 33) (pc' := 42) rfl (hb hby d1_33) rfl (tlt c33).1 (by decide) (by decide) k) ?_
            refine own_step (T' := s₁) (g' := (mkF m 43 #[.val (.int p1)] [(.int p1)])) (fun t k => XS.iloadN X0.here hx rfl (hb hby d1_42) rfl k) ?_
            refine own_step (T' := s₁) (g' := (mkF m 45 #[.val (.int p1)] [(.int (65536 : Int32)), (.int p1)])) (X0.ldcInt hx hown (mvT hZ (hw _ (List.mem_of_getElem? (i := 17) rfl))) (g := (mkF m 43 #[.val (.int p1)] [(.int p1)])) rfl (hb hby d1_43)) ?_
            by_cases c45 : p1 < (65536 : Int32)
            · refine own_step (T' := s₁) (g' := (mkF m 58 #[.val (.int p1)] [])) (fun t k => XS.icmpYes X0.here hx rfl (pc0 := 45) (pc' := 58) rfl (hb hby d1_45) rfl (tlt c45).1 (by decide) (by decide) k) ?_
              exact j58 (by unfold own_ccP; rintro (q | q | q | ⟨q1, q2⟩ | ⟨q1, q2⟩ | ⟨q1, q2⟩) <;> first | contradiction | (simp_all; done))
            · refine own_step (T' := s₁) (g' := (mkF m 48 #[.val (.int p1)] [])) (fun t k => XS.icmpNo X0.here hx rfl (hb hby d1_45) rfl (flt c45).1 k) ?_
              refine own_step (T' := s₁) (g' := (mkF m 49 #[.val (.int p1)] [(.int p1)])) (fun t k => XS.iloadN X0.here hx rfl (hb hby d1_48) rfl k) ?_
              refine own_step (T' := s₁) (g' := (mkF m 51 #[.val (.int p1)] [(.int (1114111 : Int32)), (.int p1)])) (X0.ldcInt hx hown (mvT hZ (hw _ (List.mem_of_getElem? (i := 25) rfl))) (g := (mkF m 49 #[.val (.int p1)] [(.int p1)])) rfl (hb hby d1_49)) ?_
              by_cases c51 : (1114111 : Int32) < p1
              · refine own_step (T' := s₁) (g' := (mkF m 58 #[.val (.int p1)] [])) (fun t k => XS.icmpYes X0.here hx rfl (pc0 := 51) (pc' := 58) rfl (hb hby d1_51) rfl (tlt c51).2.2.1 (by decide) (by decide) k) ?_
                exact j58 (by unfold own_ccP; rintro (q | q | q | ⟨q1, q2⟩ | ⟨q1, q2⟩ | ⟨q1, q2⟩) <;> first | contradiction | (simp_all; done))
              · refine own_step (T' := s₁) (g' := (mkF m 54 #[.val (.int p1)] [])) (fun t k => XS.icmpNo X0.here hx rfl (hb hby d1_51) rfl (flt c51).2.2.1 k) ?_
                exact j54 (by unfold own_ccP; exact Or.inr (Or.inr (Or.inr (Or.inr (Or.inr ⟨c45, c51⟩)))))
          · refine own_step (T' := s₁) (g' := (mkF m 36 #[.val (.int p1)] [])) (fun t k => XS.icmpNo X0.here hx rfl (hb hby d1_33) rfl (flt c33).1 k) ?_
            refine own_step (T' := s₁) (g' := (mkF m 37 #[.val (.int p1)] [(.int p1)])) (fun t k => XS.iloadN X0.here hx rfl (hb hby d1_36) rfl k) ?_
            refine own_step (T' := s₁) (g' := (mkF m 39 #[.val (.int p1)] [(.int (65533 : Int32)), (.int p1)])) (X0.ldcInt hx hown (mvT hZ (hw _ (List.mem_of_getElem? (i := 24) rfl))) (g := (mkF m 37 #[.val (.int p1)] [(.int p1)])) rfl (hb hby d1_37)) ?_
            by_cases c39 : (65533 : Int32) < p1
            · refine own_step (T' := s₁) (g' := (mkF m 42 #[.val (.int p1)] [])) (fun t k => XS.icmpNo X0.here hx rfl (hb hby d1_39) rfl (tlt c39).2.2.2 k) ?_
              refine own_step (T' := s₁) (g' := (mkF m 43 #[.val (.int p1)] [(.int p1)])) (fun t k => XS.iloadN X0.here hx rfl (hb hby d1_42) rfl k) ?_
              refine own_step (T' := s₁) (g' := (mkF m 45 #[.val (.int p1)] [(.int (65536 : Int32)), (.int p1)])) (X0.ldcInt hx hown (mvT hZ (hw _ (List.mem_of_getElem? (i := 17) rfl))) (g := (mkF m 43 #[.val (.int p1)] [(.int p1)])) rfl (hb hby d1_43)) ?_
              by_cases c45 : p1 < (65536 : Int32)
              · refine own_step (T' := s₁) (g' := (mkF m 58 #[.val (.int p1)] [])) (fun t k => XS.icmpYes X0.here hx rfl (pc0 := 45) (pc' := 58) rfl (hb hby d1_45) rfl (tlt c45).1 (by decide) (by decide) k) ?_
                exact j58 (by unfold own_ccP; rintro (q | q | q | ⟨q1, q2⟩ | ⟨q1, q2⟩ | ⟨q1, q2⟩) <;> first | contradiction | (simp_all; done))
              · refine own_step (T' := s₁) (g' := (mkF m 48 #[.val (.int p1)] [])) (fun t k => XS.icmpNo X0.here hx rfl (hb hby d1_45) rfl (flt c45).1 k) ?_
                refine own_step (T' := s₁) (g' := (mkF m 49 #[.val (.int p1)] [(.int p1)])) (fun t k => XS.iloadN X0.here hx rfl (hb hby d1_48) rfl k) ?_
                refine own_step (T' := s₁) (g' := (mkF m 51 #[.val (.int p1)] [(.int (1114111 : Int32)), (.int p1)])) (X0.ldcInt hx hown (mvT hZ (hw _ (List.mem_of_getElem? (i := 25) rfl))) (g := (mkF m 49 #[.val (.int p1)] [(.int p1)])) rfl (hb hby d1_49)) ?_
                by_cases c51 : (1114111 : Int32) < p1
                · refine own_step (T' := s₁) (g' := (mkF m 58 #[.val (.int p1)] [])) (fun t k => XS.icmpYes X0.here hx rfl (pc0 := 51) (pc' := 58) rfl (hb hby d1_51) rfl (tlt c51).2.2.1 (by decide) (by decide) k) ?_
                  exact j58 (by unfold own_ccP; rintro (q | q | q | ⟨q1, q2⟩ | ⟨q1, q2⟩ | ⟨q1, q2⟩) <;> first | contradiction | (simp_all; done))
                · refine own_step (T' := s₁) (g' := (mkF m 54 #[.val (.int p1)] [])) (fun t k => XS.icmpNo X0.here hx rfl (hb hby d1_51) rfl (flt c51).2.2.1 k) ?_
                  exact j54 (by unfold own_ccP; exact Or.inr (Or.inr (Or.inr (Or.inr (Or.inr ⟨c45, c51⟩)))))
            · refine own_step (T' := s₁) (g' := (mkF m 54 #[.val (.int p1)] [])) (fun t k => XS.icmpYes X0.here hx rfl (pc0 := 39) (pc' := 54) rfl (hb hby d1_39) rfl (flt c39).2.2.2 (by decide) (by decide) k) ?_
              exact j54 (by unfold own_ccP; exact Or.inr (Or.inr (Or.inr (Or.inr (Or.inl ⟨c33, c39⟩)))))
        · refine own_step (T' := s₁) (g' := (mkF m 24 #[.val (.int p1)] [])) (fun t k => XS.icmpNo X0.here hx rfl (hb hby d1_21) rfl (flt c21).1 k) ?_
          refine own_step (T' := s₁) (g' := (mkF m 25 #[.val (.int p1)] [(.int p1)])) (fun t k => XS.iloadN X0.here hx rfl (hb hby d1_24) rfl k) ?_
          refine own_step (T' := s₁) (g' := (mkF m 27 #[.val (.int p1)] [(.int (55295 : Int32)), (.int p1)])) (X0.ldcInt hx hown (mvT hZ (hw _ (List.mem_of_getElem? (i := 23) rfl))) (g := (mkF m 25 #[.val (.int p1)] [(.int p1)])) rfl (hb hby d1_25)) ?_
          by_cases c27 : (55295 : Int32) < p1
          · refine own_step (T' := s₁) (g' := (mkF m 30 #[.val (.int p1)] [])) (fun t k => XS.icmpNo X0.here hx rfl (hb hby d1_27) rfl (tlt c27).2.2.2 k) ?_
            refine own_step (T' := s₁) (g' := (mkF m 31 #[.val (.int p1)] [(.int p1)])) (fun t k => XS.iloadN X0.here hx rfl (hb hby d1_30) rfl k) ?_
            refine own_step (T' := s₁) (g' := (mkF m 33 #[.val (.int p1)] [(.int (57344 : Int32)), (.int p1)])) (X0.ldcInt hx hown (mvT hZ (hw _ (List.mem_of_getElem? (i := 16) rfl))) (g := (mkF m 31 #[.val (.int p1)] [(.int p1)])) rfl (hb hby d1_31)) ?_
            by_cases c33 : p1 < (57344 : Int32)
            · refine own_step (T' := s₁) (g' := (mkF m 42 #[.val (.int p1)] [])) (fun t k => XS.icmpYes X0.here hx rfl (pc0 := 33) (pc' := 42) rfl (hb hby d1_33) rfl (tlt c33).1 (by decide) (by decide) k) ?_
              refine own_step (T' := s₁) (g' := (mkF m 43 #[.val (.int p1)] [(.int p1)])) (fun t k => XS.iloadN X0.here hx rfl (hb hby d1_42) rfl k) ?_
              refine own_step (T' := s₁) (g' := (mkF m 45 #[.val (.int p1)] [(.int (65536 : Int32)), (.int p1)])) (X0.ldcInt hx hown (mvT hZ (hw _ (List.mem_of_getElem? (i := 17) rfl))) (g := (mkF m 43 #[.val (.int p1)] [(.int p1)])) rfl (hb hby d1_43)) ?_
              by_cases c45 : p1 < (65536 : Int32)
              · refine own_step (T' := s₁) (g' := (mkF m 58 #[.val (.int p1)] [])) (fun t k => XS.icmpYes X0.here hx rfl (pc0 := 45) (pc' := 58) rfl (hb hby d1_45) rfl (tlt c45).1 (by decide) (by decide) k) ?_
                exact j58 (by unfold own_ccP; rintro (q | q | q | ⟨q1, q2⟩ | ⟨q1, q2⟩ | ⟨q1, q2⟩) <;> first | contradiction | (simp_all; done))
              · refine own_step (T' := s₁) (g' := (mkF m 48 #[.val (.int p1)] [])) (fun t k => XS.icmpNo X0.here hx rfl (hb hby d1_45) rfl (flt c45).1 k) ?_
                refine own_step (T' := s₁) (g' := (mkF m 49 #[.val (.int p1)] [(.int p1)])) (fun t k => XS.iloadN X0.here hx rfl (hb hby d1_48) rfl k) ?_
                refine own_step (T' := s₁) (g' := (mkF m 51 #[.val (.int p1)] [(.int (1114111 : Int32)), (.int p1)])) (X0.ldcInt hx hown (mvT hZ (hw _ (List.mem_of_getElem? (i := 25) rfl))) (g := (mkF m 49 #[.val (.int p1)] [(.int p1)])) rfl (hb hby d1_49)) ?_
                by_cases c51 : (1114111 : Int32) < p1
                · refine own_step (T' := s₁) (g' := (mkF m 58 #[.val (.int p1)] [])) (fun t k => XS.icmpYes X0.here hx rfl (pc0 := 51) (pc' := 58) rfl (hb hby d1_51) rfl (tlt c51).2.2.1 (by decide) (by decide) k) ?_
                  exact j58 (by unfold own_ccP; rintro (q | q | q | ⟨q1, q2⟩ | ⟨q1, q2⟩ | ⟨q1, q2⟩) <;> first | contradiction | (simp_all; done))
                · refine own_step (T' := s₁) (g' := (mkF m 54 #[.val (.int p1)] [])) (fun t k => XS.icmpNo X0.here hx rfl (hb hby d1_51) rfl (flt c51).2.2.1 k) ?_
                  exact j54 (by unfold own_ccP; exact Or.inr (Or.inr (Or.inr (Or.inr (Or.inr ⟨c45, c51⟩)))))
            · refine own_step (T' := s₁) (g' := (mkF m 36 #[.val (.int p1)] [])) (fun t k => XS.icmpNo X0.here hx rfl (hb hby d1_33) rfl (flt c33).1 k) ?_
              refine own_step (T' := s₁) (g' := (mkF m 37 #[.val (.int p1)] [(.int p1)])) (fun t k => XS.iloadN X0.here hx rfl (hb hby d1_36) rfl k) ?_
              refine own_step (T' := s₁) (g' := (mkF m 39 #[.val (.int p1)] [(.int (65533 : Int32)), (.int p1)])) (X0.ldcInt hx hown (mvT hZ (hw _ (List.mem_of_getElem? (i := 24) rfl))) (g := (mkF m 37 #[.val (.int p1)] [(.int p1)])) rfl (hb hby d1_37)) ?_
              by_cases c39 : (65533 : Int32) < p1
              · refine own_step (T' := s₁) (g' := (mkF m 42 #[.val (.int p1)] [])) (fun t k => XS.icmpNo X0.here hx rfl (hb hby d1_39) rfl (tlt c39).2.2.2 k) ?_
                refine own_step (T' := s₁) (g' := (mkF m 43 #[.val (.int p1)] [(.int p1)])) (fun t k => XS.iloadN X0.here hx rfl (hb hby d1_42) rfl k) ?_
                refine own_step (T' := s₁) (g' := (mkF m 45 #[.val (.int p1)] [(.int (65536 : Int32)), (.int p1)])) (X0.ldcInt hx hown (mvT hZ (hw _ (List.mem_of_getElem? (i := 17) rfl))) (g := (mkF m 43 #[.val (.int p1)] [(.int p1)])) rfl (hb hby d1_43)) ?_
                by_cases c45 : p1 < (65536 : Int32)
                · refine own_step (T' := s₁) (g' := (mkF m 58 #[.val (.int p1)] [])) (fun t k => XS.icmpYes X0.here hx rfl (pc0 := 45) (pc' := 58) rfl (hb hby d1_45) rfl (tlt c45).1 (by decide) (by decide) k) ?_
                  exact j58 (by unfold own_ccP; rintro (q | q | q | ⟨q1, q2⟩ | ⟨q1, q2⟩ | ⟨q1, q2⟩) <;> first | contradiction | (simp_all; done))
                · refine own_step (T' := s₁) (g' := (mkF m 48 #[.val (.int p1)] [])) (fun t k => XS.icmpNo X0.here hx rfl (hb hby d1_45) rfl (flt c45).1 k) ?_
                  refine own_step (T' := s₁) (g' := (mkF m 49 #[.val (.int p1)] [(.int p1)])) (fun t k => XS.iloadN X0.here hx rfl (hb hby d1_48) rfl k) ?_
                  refine own_step (T' := s₁) (g' := (mkF m 51 #[.val (.int p1)] [(.int (1114111 : Int32)), (.int p1)])) (X0.ldcInt hx hown (mvT hZ (hw _ (List.mem_of_getElem? (i := 25) rfl))) (g := (mkF m 49 #[.val (.int p1)] [(.int p1)])) rfl (hb hby d1_49)) ?_
                  by_cases c51 : (1114111 : Int32) < p1
                  · refine own_step (T' := s₁) (g' := (mkF m 58 #[.val (.int p1)] [])) (fun t k => XS.icmpYes X0.here hx rfl (pc0 := 51) (pc' := 58) rfl (hb hby d1_51) rfl (tlt c51).2.2.1 (by decide) (by decide) k) ?_
                    exact j58 (by unfold own_ccP; rintro (q | q | q | ⟨q1, q2⟩ | ⟨q1, q2⟩ | ⟨q1, q2⟩) <;> first | contradiction | (simp_all; done))
                  · refine own_step (T' := s₁) (g' := (mkF m 54 #[.val (.int p1)] [])) (fun t k => XS.icmpNo X0.here hx rfl (hb hby d1_51) rfl (flt c51).2.2.1 k) ?_
                    exact j54 (by unfold own_ccP; exact Or.inr (Or.inr (Or.inr (Or.inr (Or.inr ⟨c45, c51⟩)))))
              · refine own_step (T' := s₁) (g' := (mkF m 54 #[.val (.int p1)] [])) (fun t k => XS.icmpYes X0.here hx rfl (pc0 := 39) (pc' := 54) rfl (hb hby d1_39) rfl (flt c39).2.2.2 (by decide) (by decide) k) ?_
                exact j54 (by unfold own_ccP; exact Or.inr (Or.inr (Or.inr (Or.inr (Or.inl ⟨c33, c39⟩)))))
          · refine own_step (T' := s₁) (g' := (mkF m 54 #[.val (.int p1)] [])) (fun t k => XS.icmpYes X0.here hx rfl (pc0 := 27) (pc' := 54) rfl (hb hby d1_27) rfl (flt c27).2.2.2 (by decide) (by decide) k) ?_
            exact j54 (by unfold own_ccP; exact Or.inr (Or.inr (Or.inr (Or.inl ⟨c21, c27⟩))))
def own_e1 (x : Int32) : Prop := ¬ x < 0 ∧ ¬ 1114111 < x
def own_e2 (x : Int32) : Prop := x < 32 ∧ ¬ x = 9 ∧ ¬ x = 10 ∧ ¬ x = 13
def own_e3 (x : Int32) : Prop := ¬ x < 55296 ∧ ¬ 57343 < x
def own_e4 (x : Int32) : Prop := x = 65534 ∨ x = 65535
instance (x : Int32) : Decidable (own_e1 x) := by unfold own_e1; infer_instance
instance (x : Int32) : Decidable (own_e2 x) := by unfold own_e2; infer_instance
instance (x : Int32) : Decidable (own_e3 x) := by unfold own_e3; infer_instance
instance (x : Int32) : Decidable (own_e4 x) := by unfold own_e4; infer_instance
def own_ex (x : Int32) : Int32 := if own_e1 x ∧ ¬ own_e2 x ∧ ¬ own_e3 x ∧ ¬ own_e4 x then 1 else 0
theorem own_cc_ex (x : Int32) : own_cc x = own_ex x := by
  have k : own_ccP x ↔ (own_e1 x ∧ ¬ own_e2 x ∧ ¬ own_e3 x ∧ ¬ own_e4 x) := by
    have i : ∀ (a b : Int32), (a = b) = (a.toInt = b.toInt) := fun a b => propext ⟨fun h => by rw [h], fun h => Int32.toInt_inj.mp h⟩
    simp only [own_ccP, own_e1, own_e2, own_e3, own_e4, Int32.lt_iff_toInt_lt, i]
    have e1 : (9 : Int32).toInt = 9 := by decide
    have e2 : (10 : Int32).toInt = 10 := by decide
    have e3 : (13 : Int32).toInt = 13 := by decide
    have e4 : (32 : Int32).toInt = 32 := by decide
    have e5 : (55295 : Int32).toInt = 55295 := by decide
    have e6 : (57344 : Int32).toInt = 57344 := by decide
    have e7 : (65533 : Int32).toInt = 65533 := by decide
    have e8 : (65536 : Int32).toInt = 65536 := by decide
    have e9 : (1114111 : Int32).toInt = 1114111 := by decide
    have e10 : (0 : Int32).toInt = 0 := by decide
    have e11 : (55296 : Int32).toInt = 55296 := by decide
    have e12 : (57343 : Int32).toInt = 57343 := by decide
    have e13 : (65534 : Int32).toInt = 65534 := by decide
    have e14 : (65535 : Int32).toInt = 65535 := by decide
    rw [e1, e2, e3, e4, e5, e6, e7, e8, e9, e10, e11, e12, e13, e14]
    omega
  by_cases c : own_ccP x
  · rw [own_cc, own_ex, if_pos c, if_pos (k.mp c)]
  · rw [own_cc, own_ex, if_neg c, if_neg (fun z => c (k.mpr z))]
def Q_ex (p1 : Int32) (h0 : Heap) (n0 : Nat) (v : Option Value) (h : Heap) (L : List Loc) : Prop := v = some (.int (own_ex p1)) ∧ Fr n0 L ∧ h = h0
theorem ef_rm_ex (m : MethodId) (x0 : Int32) : entryFrame m #[(.int x0)] 5 = mkF m 0 #[.val (.int x0), .unset, .unset, .unset, .unset] [] := by first | rfl | (simp [entryFrame, mkF, argsToLocals, Value.category]; done) | (simp [entryFrame, mkF, argsToLocals, Value.category] <;> rfl)
theorem pn_1 : plainName "com/example/charter_for_federations/charterforfederations/xmlrpc/ResponseWriterCanCarryPinLaw" = true := by first | (simp [plainName, overriddenIn]; done) | decide +kernel
theorem d2_0 : decode method_2_code 0 = .ok (.iload_n 0, 1) := by decide +kernel
theorem d2_1 : decode method_2_code 1 = .ok (.ifCond .lt 13, 3) := by decide +kernel
theorem d2_15 : decode method_2_code 15 = .ok (.istore_n 1, 1) := by decide +kernel
theorem d2_16 : decode method_2_code 16 = .ok (.iload_n 0, 1) := by decide +kernel
theorem d2_17 : decode method_2_code 17 = .ok (.bipush 32, 2) := by decide +kernel
theorem d2_19 : decode method_2_code 19 = .ok (.if_icmp .ge 25, 3) := by decide +kernel
theorem d2_45 : decode method_2_code 45 = .ok (.istore_n 2, 1) := by decide +kernel
theorem d2_46 : decode method_2_code 46 = .ok (.iload_n 0, 1) := by decide +kernel
theorem d2_47 : decode method_2_code 47 = .ok (.ldc 8, 2) := by decide +kernel
theorem d2_49 : decode method_2_code 49 = .ok (.if_icmp .lt 13, 3) := by decide +kernel
theorem d2_63 : decode method_2_code 63 = .ok (.istore_n 3, 1) := by decide +kernel
theorem d2_64 : decode method_2_code 64 = .ok (.iload_n 0, 1) := by decide +kernel
theorem d2_65 : decode method_2_code 65 = .ok (.ldc 10, 2) := by decide +kernel
theorem d2_67 : decode method_2_code 67 = .ok (.if_icmp .eq 9, 3) := by decide +kernel
theorem d2_81 : decode method_2_code 81 = .ok (.istore 4, 2) := by decide +kernel
theorem d2_83 : decode method_2_code 83 = .ok (.iload_n 1, 1) := by decide +kernel
theorem d2_84 : decode method_2_code 84 = .ok (.ifCond .eq 20, 3) := by decide +kernel
theorem d2_104 : decode method_2_code 104 = .ok (.iconst 0, 1) := by decide +kernel
theorem d2_105 : decode method_2_code 105 = .ok (.ireturn, 1) := by decide +kernel
theorem d2_87 : decode method_2_code 87 = .ok (.iload_n 2, 1) := by decide +kernel
theorem d2_88 : decode method_2_code 88 = .ok (.ifCond .ne 16, 3) := by decide +kernel
theorem d2_91 : decode method_2_code 91 = .ok (.iload_n 3, 1) := by decide +kernel
theorem d2_92 : decode method_2_code 92 = .ok (.ifCond .ne 12, 3) := by decide +kernel
theorem d2_95 : decode method_2_code 95 = .ok (.iload 4, 2) := by decide +kernel
theorem d2_97 : decode method_2_code 97 = .ok (.ifCond .ne 7, 3) := by decide +kernel
theorem d2_100 : decode method_2_code 100 = .ok (.iconst 1, 1) := by decide +kernel
theorem d2_101 : decode method_2_code 101 = .ok (.goto 4, 3) := by decide +kernel
theorem d2_76 : decode method_2_code 76 = .ok (.iconst 1, 1) := by decide +kernel
theorem d2_77 : decode method_2_code 77 = .ok (.goto 4, 3) := by decide +kernel
theorem d2_70 : decode method_2_code 70 = .ok (.iload_n 0, 1) := by decide +kernel
theorem d2_71 : decode method_2_code 71 = .ok (.ldc 11, 2) := by decide +kernel
theorem d2_73 : decode method_2_code 73 = .ok (.if_icmp .ne 7, 3) := by decide +kernel
theorem d2_80 : decode method_2_code 80 = .ok (.iconst 0, 1) := by decide +kernel
theorem d2_62 : decode method_2_code 62 = .ok (.iconst 0, 1) := by decide +kernel
theorem d2_52 : decode method_2_code 52 = .ok (.iload_n 0, 1) := by decide +kernel
theorem d2_53 : decode method_2_code 53 = .ok (.ldc 9, 2) := by decide +kernel
theorem d2_55 : decode method_2_code 55 = .ok (.if_icmp .gt 7, 3) := by decide +kernel
theorem d2_58 : decode method_2_code 58 = .ok (.iconst 1, 1) := by decide +kernel
theorem d2_59 : decode method_2_code 59 = .ok (.goto 4, 3) := by decide +kernel
theorem d2_22 : decode method_2_code 22 = .ok (.iload_n 0, 1) := by decide +kernel
theorem d2_23 : decode method_2_code 23 = .ok (.bipush 9, 2) := by decide +kernel
theorem d2_25 : decode method_2_code 25 = .ok (.if_icmp .eq 19, 3) := by decide +kernel
theorem d2_44 : decode method_2_code 44 = .ok (.iconst 0, 1) := by decide +kernel
theorem d2_28 : decode method_2_code 28 = .ok (.iload_n 0, 1) := by decide +kernel
theorem d2_29 : decode method_2_code 29 = .ok (.bipush 10, 2) := by decide +kernel
theorem d2_31 : decode method_2_code 31 = .ok (.if_icmp .eq 13, 3) := by decide +kernel
theorem d2_34 : decode method_2_code 34 = .ok (.iload_n 0, 1) := by decide +kernel
theorem d2_35 : decode method_2_code 35 = .ok (.bipush 13, 2) := by decide +kernel
theorem d2_37 : decode method_2_code 37 = .ok (.if_icmp .eq 7, 3) := by decide +kernel
theorem d2_40 : decode method_2_code 40 = .ok (.iconst 1, 1) := by decide +kernel
theorem d2_41 : decode method_2_code 41 = .ok (.goto 4, 3) := by decide +kernel
theorem d2_14 : decode method_2_code 14 = .ok (.iconst 0, 1) := by decide +kernel
theorem d2_4 : decode method_2_code 4 = .ok (.iload_n 0, 1) := by decide +kernel
theorem d2_5 : decode method_2_code 5 = .ok (.ldc 7, 2) := by decide +kernel
theorem d2_7 : decode method_2_code 7 = .ok (.if_icmp .gt 7, 3) := by decide +kernel
theorem d2_10 : decode method_2_code 10 = .ok (.iconst 1, 1) := by decide +kernel
theorem d2_11 : decode method_2_code 11 = .ok (.goto 4, 3) := by decide +kernel
set_option maxRecDepth 65536 in
set_option maxHeartbeats 40000000 in
theorem rm_ex (l : Launch) (Z : State) (a0 : Array Value) (hw : ∀ d ∈ tables_1, d.before a0 Z = true) (ws : List Jvm.Cond) (p1 : Int32) (h0 : Heap) (n0 : Nat) (Z0 : n0 ≤ h0.size)  :
    MetFree l (⟨"com/example/charter_for_federations/charterforfederations/xmlrpc/ResponseWriterCanCarryPinLaw", "expected", "(I)Z"⟩ : MethodName) (head1 (Jvm.Cond.code (⟨"com/example/charter_for_federations/charterforfederations/xmlrpc/ResponseWriterCanCarryPinLaw", "expected", "(I)Z"⟩ : MethodName) method_2_code 5 (some (.boolean)) :: ws) ({ frames := 0, cells := 0, slots := 0, locals := 0 } : Room)) (fun a U => a = #[(.int p1)] ∧ Z.Warmed39 U.vm ∧ U.heap = h0) (fun _ _ _ _ _ => True) (fun _ U o U' => ∃ v L, o = .returned v ∧ (Q_ex p1 h0 n0) v U'.heap L ∧ FrameEnd U o U' L ({ frames := 0, cells := 0, slots := 0, locals := 0 } : Room).cells ({ frames := 0, cells := 0, slots := 0, locals := 0 } : Room).slots) := by
  refine MetFree.of_bodySF (plainFor_of_name pn_1) hisR ?_
  intro p e s m args below meth c s₁ Bd hml0 hP hK
  obtain ⟨rfl, hZ, hh⟩ := hP
  have hx := Bd.exec
  have hby := Bd.bytes
  have hlk : meth.locks = false := BodyLoose.notSynchronized Bd
  have hml : c.maxLocals = 5 := hml0
  have hown : s.vm.findClass "com/example/charter_for_federations/charterforfederations/xmlrpc/ResponseWriterCanCarryPinLaw" = some m.cls := findClass_of_methodNamed Bd.named
  have hnm := (name_of_methodNamed Bd.named Bd.method).1
  have X0 : Stand p l e ({ frames := 0, cells := 0, slots := 0, locals := 0 } : Room) s m #[(.int p1)] below meth c s₁ [] 0 0 := Stand.of_body Bd
  have e0 : s₁.heap = h0 := by rw [← hh, Bd.state]; rfl
  have N0 := Fr.nil n0
  show own_Go p e below s (Q_ex p1 h0 n0) ({ frames := 0, cells := 0, slots := 0, locals := 0 } : Room).cells ({ frames := 0, cells := 0, slots := 0, locals := 0 } : Room).slots s₁ (entryFrame m #[(.int p1)] 5)
  refine own_cast (g' := (mkF m 0 #[.val (.int p1), .unset, .unset, .unset, .unset] [])) (ef_rm_ex m p1) ?_
  refine own_step (T' := s₁) (g' := (mkF m 1 #[.val (.int p1), .unset, .unset, .unset, .unset] [(.int p1)])) (fun t k => XS.iloadN X0.here hx rfl (hb hby d2_0) rfl k) ?_
  have j15 : ∀ (b1 : Int32), ((b1 = 1 ∧ own_e1 p1) ∨ (b1 = 0 ∧ ¬ own_e1 p1)) → own_Go p e below s (Q_ex p1 h0 n0) ({ frames := 0, cells := 0, slots := 0, locals := 0 } : Room).cells ({ frames := 0, cells := 0, slots := 0, locals := 0 } : Room).slots s₁ (mkF m 15 #[.val (.int p1), .unset, .unset, .unset, .unset] [(.int b1)]) := by
    intro b1 hb1
    refine own_step (T' := s₁) (g' := (mkF m 16 #[.val (.int p1), .val (.int b1), .unset, .unset, .unset] [])) (fun t k => XS.istoreN X0.here hx rfl (hb hby d2_15) rfl (l' := #[.val (.int p1), .val (.int b1), .unset, .unset, .unset]) rfl k) ?_
    refine own_step (T' := s₁) (g' := (mkF m 17 #[.val (.int p1), .val (.int b1), .unset, .unset, .unset] [(.int p1)])) (fun t k => XS.iloadN X0.here hx rfl (hb hby d2_16) rfl k) ?_
    refine own_step (T' := s₁) (g' := (mkF m 19 #[.val (.int p1), .val (.int b1), .unset, .unset, .unset] [(.int (32 : Int32)), (.int p1)])) (fun t k => XS.bipush X0.here hx rfl (hb hby d2_17) k) ?_
    have j45 : ∀ (b2 : Int32), ((b2 = 1 ∧ own_e2 p1) ∨ (b2 = 0 ∧ ¬ own_e2 p1)) → own_Go p e below s (Q_ex p1 h0 n0) ({ frames := 0, cells := 0, slots := 0, locals := 0 } : Room).cells ({ frames := 0, cells := 0, slots := 0, locals := 0 } : Room).slots s₁ (mkF m 45 #[.val (.int p1), .val (.int b1), .unset, .unset, .unset] [(.int b2)]) := by
      intro b2 hb2
      refine own_step (T' := s₁) (g' := (mkF m 46 #[.val (.int p1), .val (.int b1), .val (.int b2), .unset, .unset] [])) (fun t k => XS.istoreN X0.here hx rfl (hb hby d2_45) rfl (l' := #[.val (.int p1), .val (.int b1), .val (.int b2), .unset, .unset]) rfl k) ?_
      refine own_step (T' := s₁) (g' := (mkF m 47 #[.val (.int p1), .val (.int b1), .val (.int b2), .unset, .unset] [(.int p1)])) (fun t k => XS.iloadN X0.here hx rfl (hb hby d2_46) rfl k) ?_
      refine own_step (T' := s₁) (g' := (mkF m 49 #[.val (.int p1), .val (.int b1), .val (.int b2), .unset, .unset] [(.int (55296 : Int32)), (.int p1)])) (X0.ldcInt hx hown (mvT hZ (hw _ (List.mem_of_getElem? (i := 2) rfl))) (g := (mkF m 47 #[.val (.int p1), .val (.int b1), .val (.int b2), .unset, .unset] [(.int p1)])) rfl (hb hby d2_47)) ?_
      have j63 : ∀ (b3 : Int32), ((b3 = 1 ∧ own_e3 p1) ∨ (b3 = 0 ∧ ¬ own_e3 p1)) → own_Go p e below s (Q_ex p1 h0 n0) ({ frames := 0, cells := 0, slots := 0, locals := 0 } : Room).cells ({ frames := 0, cells := 0, slots := 0, locals := 0 } : Room).slots s₁ (mkF m 63 #[.val (.int p1), .val (.int b1), .val (.int b2), .unset, .unset] [(.int b3)]) := by
        intro b3 hb3
        refine own_step (T' := s₁) (g' := (mkF m 64 #[.val (.int p1), .val (.int b1), .val (.int b2), .val (.int b3), .unset] [])) (fun t k => XS.istoreN X0.here hx rfl (hb hby d2_63) rfl (l' := #[.val (.int p1), .val (.int b1), .val (.int b2), .val (.int b3), .unset]) rfl k) ?_
        refine own_step (T' := s₁) (g' := (mkF m 65 #[.val (.int p1), .val (.int b1), .val (.int b2), .val (.int b3), .unset] [(.int p1)])) (fun t k => XS.iloadN X0.here hx rfl (hb hby d2_64) rfl k) ?_
        refine own_step (T' := s₁) (g' := (mkF m 67 #[.val (.int p1), .val (.int b1), .val (.int b2), .val (.int b3), .unset] [(.int (65534 : Int32)), (.int p1)])) (X0.ldcInt hx hown (mvT hZ (hw _ (List.mem_of_getElem? (i := 6) rfl))) (g := (mkF m 65 #[.val (.int p1), .val (.int b1), .val (.int b2), .val (.int b3), .unset] [(.int p1)])) rfl (hb hby d2_65)) ?_
        have j81 : ∀ (b4 : Int32), ((b4 = 1 ∧ own_e4 p1) ∨ (b4 = 0 ∧ ¬ own_e4 p1)) → own_Go p e below s (Q_ex p1 h0 n0) ({ frames := 0, cells := 0, slots := 0, locals := 0 } : Room).cells ({ frames := 0, cells := 0, slots := 0, locals := 0 } : Room).slots s₁ (mkF m 81 #[.val (.int p1), .val (.int b1), .val (.int b2), .val (.int b3), .unset] [(.int b4)]) := by
          intro b4 hb4
          refine own_step (T' := s₁) (g' := (mkF m 83 #[.val (.int p1), .val (.int b1), .val (.int b2), .val (.int b3), .val (.int b4)] [])) (fun t k => XS.istore X0.here hx rfl (hb hby d2_81) rfl (l' := #[.val (.int p1), .val (.int b1), .val (.int b2), .val (.int b3), .val (.int b4)]) rfl k) ?_
          refine own_step (T' := s₁) (g' := (mkF m 84 #[.val (.int p1), .val (.int b1), .val (.int b2), .val (.int b3), .val (.int b4)] [(.int b1)])) (fun t k => XS.iloadN X0.here hx rfl (hb hby d2_83) rfl k) ?_
          by_cases c84 : b1 = (0 : Int32)
          · refine own_step (T' := s₁) (g' := (mkF m 104 #[.val (.int p1), .val (.int b1), .val (.int b2), .val (.int b3), .val (.int b4)] [])) (fun t k => XS.ifYes X0.here hx rfl (pc0 := 84) (pc' := 104) rfl (hb hby d2_84) rfl ((if0 _ _).trans (teq c84).1) (by decide) (by decide) k) ?_
            refine own_step (T' := s₁) (g' := (mkF m 105 #[.val (.int p1), .val (.int b1), .val (.int b2), .val (.int b3), .val (.int b4)] [(.int (0 : Int32))])) (fun t k => XS.iconst X0.here hx rfl (hb hby d2_104) k) ?_
            refine own_rN X0 hx hlk Bd.returns (by simp) (hb hby d2_105) ?_ (by decide) (by decide)
            rw [e0]
            have g1 : ∀ {q : Int32} {P : Prop}, ((q = 1 ∧ P) ∨ (q = 0 ∧ ¬ P)) → ¬ q = 0 → P := fun h k => h.elim (fun z => z.2) (fun z => absurd z.1 k)
            have g0 : ∀ {q : Int32} {P : Prop}, ((q = 1 ∧ P) ∨ (q = 0 ∧ ¬ P)) → q = 0 → ¬ P := fun h k => h.elim (fun z => absurd (z.1.symm.trans k) (by decide)) (fun z => z.2)
            exact ⟨by rw [own_ex, if_neg (fun z => g0 hb1 c84 z.1)]; rfl, N0, rfl⟩
          · refine own_step (T' := s₁) (g' := (mkF m 87 #[.val (.int p1), .val (.int b1), .val (.int b2), .val (.int b3), .val (.int b4)] [])) (fun t k => XS.ifNo X0.here hx rfl (hb hby d2_84) rfl ((if0 _ _).trans (feq c84).1) k) ?_
            refine own_step (T' := s₁) (g' := (mkF m 88 #[.val (.int p1), .val (.int b1), .val (.int b2), .val (.int b3), .val (.int b4)] [(.int b2)])) (fun t k => XS.iloadN X0.here hx rfl (hb hby d2_87) rfl k) ?_
            by_cases c88 : b2 = (0 : Int32)
            · refine own_step (T' := s₁) (g' := (mkF m 91 #[.val (.int p1), .val (.int b1), .val (.int b2), .val (.int b3), .val (.int b4)] [])) (fun t k => XS.ifNo X0.here hx rfl (hb hby d2_88) rfl ((if0 _ _).trans (teq c88).2) k) ?_
              refine own_step (T' := s₁) (g' := (mkF m 92 #[.val (.int p1), .val (.int b1), .val (.int b2), .val (.int b3), .val (.int b4)] [(.int b3)])) (fun t k => XS.iloadN X0.here hx rfl (hb hby d2_91) rfl k) ?_
              by_cases c92 : b3 = (0 : Int32)
              · refine own_step (T' := s₁) (g' := (mkF m 95 #[.val (.int p1), .val (.int b1), .val (.int b2), .val (.int b3), .val (.int b4)] [])) (fun t k => XS.ifNo X0.here hx rfl (hb hby d2_92) rfl ((if0 _ _).trans (teq c92).2) k) ?_
                refine own_step (T' := s₁) (g' := (mkF m 97 #[.val (.int p1), .val (.int b1), .val (.int b2), .val (.int b3), .val (.int b4)] [(.int b4)])) (fun t k => XS.iload X0.here hx rfl (hb hby d2_95) rfl k) ?_
                by_cases c97 : b4 = (0 : Int32)
                · refine own_step (T' := s₁) (g' := (mkF m 100 #[.val (.int p1), .val (.int b1), .val (.int b2), .val (.int b3), .val (.int b4)] [])) (fun t k => XS.ifNo X0.here hx rfl (hb hby d2_97) rfl ((if0 _ _).trans (teq c97).2) k) ?_
                  refine own_step (T' := s₁) (g' := (mkF m 101 #[.val (.int p1), .val (.int b1), .val (.int b2), .val (.int b3), .val (.int b4)] [(.int (1 : Int32))])) (fun t k => XS.iconst X0.here hx rfl (hb hby d2_100) k) ?_
                  refine own_step (T' := s₁) (g' := (mkF m 105 #[.val (.int p1), .val (.int b1), .val (.int b2), .val (.int b3), .val (.int b4)] [(.int (1 : Int32))])) (fun t k => XS.goto X0.here hx rfl (pc0 := 101) (pc' := 105) rfl (hb hby d2_101) (by decide) (by decide) k) ?_
                  refine own_rN X0 hx hlk Bd.returns (by simp) (hb hby d2_105) ?_ (by decide) (by decide)
                  rw [e0]
                  have g1 : ∀ {q : Int32} {P : Prop}, ((q = 1 ∧ P) ∨ (q = 0 ∧ ¬ P)) → ¬ q = 0 → P := fun h k => h.elim (fun z => z.2) (fun z => absurd z.1 k)
                  have g0 : ∀ {q : Int32} {P : Prop}, ((q = 1 ∧ P) ∨ (q = 0 ∧ ¬ P)) → q = 0 → ¬ P := fun h k => h.elim (fun z => absurd (z.1.symm.trans k) (by decide)) (fun z => z.2)
                  exact ⟨by rw [own_ex, if_pos ⟨g1 hb1 c84, g0 hb2 c88, g0 hb3 c92, g0 hb4 c97⟩]; rfl, N0, rfl⟩
                · refine own_step (T' := s₁) (g' := (mkF m 104 #[.val (.int p1), .val (.int b1), .val (.int b2), .val (.int b3), .val (.int b4)] [])) (fun t k => XS.ifYes X0.here hx rfl (pc0 := 97) (pc' := 104) rfl (hb hby d2_97) rfl ((if0 _ _).trans (feq c97).2) (by decide) (by decide) k) ?_
                  refine own_step (T' := s₁) (g' := (mkF m 105 #[.val (.int p1), .val (.int b1), .val (.int b2), .val (.int b3), .val (.int b4)] [(.int (0 : Int32))])) (fun t k => XS.iconst X0.here hx rfl (hb hby d2_104) k) ?_
                  refine own_rN X0 hx hlk Bd.returns (by simp) (hb hby d2_105) ?_ (by decide) (by decide)
                  rw [e0]
                  have g1 : ∀ {q : Int32} {P : Prop}, ((q = 1 ∧ P) ∨ (q = 0 ∧ ¬ P)) → ¬ q = 0 → P := fun h k => h.elim (fun z => z.2) (fun z => absurd z.1 k)
                  have g0 : ∀ {q : Int32} {P : Prop}, ((q = 1 ∧ P) ∨ (q = 0 ∧ ¬ P)) → q = 0 → ¬ P := fun h k => h.elim (fun z => absurd (z.1.symm.trans k) (by decide)) (fun z => z.2)
                  exact ⟨by rw [own_ex, if_neg (fun z => z.2.2.2 (g1 hb4 c97))]; rfl, N0, rfl⟩
              · refine own_step (T' := s₁) (g' := (mkF m 104 #[.val (.int p1), .val (.int b1), .val (.int b2), .val (.int b3), .val (.int b4)] [])) (fun t k => XS.ifYes X0.here hx rfl (pc0 := 92) (pc' := 104) rfl (hb hby d2_92) rfl ((if0 _ _).trans (feq c92).2) (by decide) (by decide) k) ?_
                refine own_step (T' := s₁) (g' := (mkF m 105 #[.val (.int p1), .val (.int b1), .val (.int b2), .val (.int b3), .val (.int b4)] [(.int (0 : Int32))])) (fun t k => XS.iconst X0.here hx rfl (hb hby d2_104) k) ?_
                refine own_rN X0 hx hlk Bd.returns (by simp) (hb hby d2_105) ?_ (by decide) (by decide)
                rw [e0]
                have g1 : ∀ {q : Int32} {P : Prop}, ((q = 1 ∧ P) ∨ (q = 0 ∧ ¬ P)) → ¬ q = 0 → P := fun h k => h.elim (fun z => z.2) (fun z => absurd z.1 k)
                have g0 : ∀ {q : Int32} {P : Prop}, ((q = 1 ∧ P) ∨ (q = 0 ∧ ¬ P)) → q = 0 → ¬ P := fun h k => h.elim (fun z => absurd (z.1.symm.trans k) (by decide)) (fun z => z.2)
                exact ⟨by rw [own_ex, if_neg (fun z => z.2.2.1 (g1 hb3 c92))]; rfl, N0, rfl⟩
            · refine own_step (T' := s₁) (g' := (mkF m 104 #[.val (.int p1), .val (.int b1), .val (.int b2), .val (.int b3), .val (.int b4)] [])) (fun t k => XS.ifYes X0.here hx rfl (pc0 := 88) (pc' := 104) rfl (hb hby d2_88) rfl ((if0 _ _).trans (feq c88).2) (by decide) (by decide) k) ?_
              refine own_step (T' := s₁) (g' := (mkF m 105 #[.val (.int p1), .val (.int b1), .val (.int b2), .val (.int b3), .val (.int b4)] [(.int (0 : Int32))])) (fun t k => XS.iconst X0.here hx rfl (hb hby d2_104) k) ?_
              refine own_rN X0 hx hlk Bd.returns (by simp) (hb hby d2_105) ?_ (by decide) (by decide)
              rw [e0]
              have g1 : ∀ {q : Int32} {P : Prop}, ((q = 1 ∧ P) ∨ (q = 0 ∧ ¬ P)) → ¬ q = 0 → P := fun h k => h.elim (fun z => z.2) (fun z => absurd z.1 k)
              have g0 : ∀ {q : Int32} {P : Prop}, ((q = 1 ∧ P) ∨ (q = 0 ∧ ¬ P)) → q = 0 → ¬ P := fun h k => h.elim (fun z => absurd (z.1.symm.trans k) (by decide)) (fun z => z.2)
              exact ⟨by rw [own_ex, if_neg (fun z => z.2.1 (g1 hb2 c88))]; rfl, N0, rfl⟩
        by_cases c67 : p1 = (65534 : Int32)
        · refine own_step (T' := s₁) (g' := (mkF m 76 #[.val (.int p1), .val (.int b1), .val (.int b2), .val (.int b3), .unset] [])) (fun t k => XS.icmpYes X0.here hx rfl (pc0 := 67) (pc' := 76) rfl (hb hby d2_67) rfl (teq c67).1 (by decide) (by decide) k) ?_
          refine own_step (T' := s₁) (g' := (mkF m 77 #[.val (.int p1), .val (.int b1), .val (.int b2), .val (.int b3), .unset] [(.int (1 : Int32))])) (fun t k => XS.iconst X0.here hx rfl (hb hby d2_76) k) ?_
          refine own_step (T' := s₁) (g' := (mkF m 81 #[.val (.int p1), .val (.int b1), .val (.int b2), .val (.int b3), .unset] [(.int (1 : Int32))])) (fun t k => XS.goto X0.here hx rfl (pc0 := 77) (pc' := 81) rfl (hb hby d2_77) (by decide) (by decide) k) ?_
          exact j81 1 (Or.inl ⟨rfl, by unfold own_e4; first | exact Or.inl (by assumption) | exact Or.inr (by assumption)⟩)
        · refine own_step (T' := s₁) (g' := (mkF m 70 #[.val (.int p1), .val (.int b1), .val (.int b2), .val (.int b3), .unset] [])) (fun t k => XS.icmpNo X0.here hx rfl (hb hby d2_67) rfl (feq c67).1 k) ?_
          refine own_step (T' := s₁) (g' := (mkF m 71 #[.val (.int p1), .val (.int b1), .val (.int b2), .val (.int b3), .unset] [(.int p1)])) (fun t k => XS.iloadN X0.here hx rfl (hb hby d2_70) rfl k) ?_
          refine own_step (T' := s₁) (g' := (mkF m 73 #[.val (.int p1), .val (.int b1), .val (.int b2), .val (.int b3), .unset] [(.int (65535 : Int32)), (.int p1)])) (X0.ldcInt hx hown (mvT hZ (hw _ (List.mem_of_getElem? (i := 22) rfl))) (g := (mkF m 71 #[.val (.int p1), .val (.int b1), .val (.int b2), .val (.int b3), .unset] [(.int p1)])) rfl (hb hby d2_71)) ?_
          by_cases c73 : p1 = (65535 : Int32)
          · refine own_step (T' := s₁) (g' := (mkF m 76 #[.val (.int p1), .val (.int b1), .val (.int b2), .val (.int b3), .unset] [])) (fun t k => XS.icmpNo X0.here hx rfl (hb hby d2_73) rfl (teq c73).2 k) ?_
            refine own_step (T' := s₁) (g' := (mkF m 77 #[.val (.int p1), .val (.int b1), .val (.int b2), .val (.int b3), .unset] [(.int (1 : Int32))])) (fun t k => XS.iconst X0.here hx rfl (hb hby d2_76) k) ?_
            refine own_step (T' := s₁) (g' := (mkF m 81 #[.val (.int p1), .val (.int b1), .val (.int b2), .val (.int b3), .unset] [(.int (1 : Int32))])) (fun t k => XS.goto X0.here hx rfl (pc0 := 77) (pc' := 81) rfl (hb hby d2_77) (by decide) (by decide) k) ?_
            exact j81 1 (Or.inl ⟨rfl, by unfold own_e4; first | exact Or.inl (by assumption) | exact Or.inr (by assumption)⟩)
          · refine own_step (T' := s₁) (g' := (mkF m 80 #[.val (.int p1), .val (.int b1), .val (.int b2), .val (.int b3), .unset] [])) (fun t k => XS.icmpYes X0.here hx rfl (pc0 := 73) (pc' := 80) rfl (hb hby d2_73) rfl (feq c73).2 (by decide) (by decide) k) ?_
            refine own_step (T' := s₁) (g' := (mkF m 81 #[.val (.int p1), .val (.int b1), .val (.int b2), .val (.int b3), .unset] [(.int (0 : Int32))])) (fun t k => XS.iconst X0.here hx rfl (hb hby d2_80) k) ?_
            exact j81 0 (Or.inr ⟨rfl, by unfold own_e4; rintro (q | q) <;> contradiction⟩)
      by_cases c49 : p1 < (55296 : Int32)
      · refine own_step (T' := s₁) (g' := (mkF m 62 #[.val (.int p1), .val (.int b1), .val (.int b2), .unset, .unset] [])) (fun t k => XS.icmpYes X0.here hx rfl (pc0 := 49) (pc' := 62) rfl (hb hby d2_49) rfl (tlt c49).1 (by decide) (by decide) k) ?_
        refine own_step (T' := s₁) (g' := (mkF m 63 #[.val (.int p1), .val (.int b1), .val (.int b2), .unset, .unset] [(.int (0 : Int32))])) (fun t k => XS.iconst X0.here hx rfl (hb hby d2_62) k) ?_
        exact j63 0 (Or.inr ⟨rfl, by unfold own_e3; rintro ⟨q1, q2⟩; contradiction⟩)
      · refine own_step (T' := s₁) (g' := (mkF m 52 #[.val (.int p1), .val (.int b1), .val (.int b2), .unset, .unset] [])) (fun t k => XS.icmpNo X0.here hx rfl (hb hby d2_49) rfl (flt c49).1 k) ?_
        refine own_step (T' := s₁) (g' := (mkF m 53 #[.val (.int p1), .val (.int b1), .val (.int b2), .unset, .unset] [(.int p1)])) (fun t k => XS.iloadN X0.here hx rfl (hb hby d2_52) rfl k) ?_
        refine own_step (T' := s₁) (g' := (mkF m 55 #[.val (.int p1), .val (.int b1), .val (.int b2), .unset, .unset] [(.int (57343 : Int32)), (.int p1)])) (X0.ldcInt hx hown (mvT hZ (hw _ (List.mem_of_getElem? (i := 3) rfl))) (g := (mkF m 53 #[.val (.int p1), .val (.int b1), .val (.int b2), .unset, .unset] [(.int p1)])) rfl (hb hby d2_53)) ?_
        by_cases c55 : (57343 : Int32) < p1
        · refine own_step (T' := s₁) (g' := (mkF m 62 #[.val (.int p1), .val (.int b1), .val (.int b2), .unset, .unset] [])) (fun t k => XS.icmpYes X0.here hx rfl (pc0 := 55) (pc' := 62) rfl (hb hby d2_55) rfl (tlt c55).2.2.1 (by decide) (by decide) k) ?_
          refine own_step (T' := s₁) (g' := (mkF m 63 #[.val (.int p1), .val (.int b1), .val (.int b2), .unset, .unset] [(.int (0 : Int32))])) (fun t k => XS.iconst X0.here hx rfl (hb hby d2_62) k) ?_
          exact j63 0 (Or.inr ⟨rfl, by unfold own_e3; rintro ⟨q1, q2⟩; contradiction⟩)
        · refine own_step (T' := s₁) (g' := (mkF m 58 #[.val (.int p1), .val (.int b1), .val (.int b2), .unset, .unset] [])) (fun t k => XS.icmpNo X0.here hx rfl (hb hby d2_55) rfl (flt c55).2.2.1 k) ?_
          refine own_step (T' := s₁) (g' := (mkF m 59 #[.val (.int p1), .val (.int b1), .val (.int b2), .unset, .unset] [(.int (1 : Int32))])) (fun t k => XS.iconst X0.here hx rfl (hb hby d2_58) k) ?_
          refine own_step (T' := s₁) (g' := (mkF m 63 #[.val (.int p1), .val (.int b1), .val (.int b2), .unset, .unset] [(.int (1 : Int32))])) (fun t k => XS.goto X0.here hx rfl (pc0 := 59) (pc' := 63) rfl (hb hby d2_59) (by decide) (by decide) k) ?_
          exact j63 1 (Or.inl ⟨rfl, by unfold own_e3; exact ⟨by assumption, by assumption⟩⟩)
    by_cases c19 : p1 < (32 : Int32)
    · refine own_step (T' := s₁) (g' := (mkF m 22 #[.val (.int p1), .val (.int b1), .unset, .unset, .unset] [])) (fun t k => XS.icmpNo X0.here hx rfl (hb hby d2_19) rfl (tlt c19).2.1 k) ?_
      refine own_step (T' := s₁) (g' := (mkF m 23 #[.val (.int p1), .val (.int b1), .unset, .unset, .unset] [(.int p1)])) (fun t k => XS.iloadN X0.here hx rfl (hb hby d2_22) rfl k) ?_
      refine own_step (T' := s₁) (g' := (mkF m 25 #[.val (.int p1), .val (.int b1), .unset, .unset, .unset] [(.int (9 : Int32)), (.int p1)])) (fun t k => XS.bipush X0.here hx rfl (hb hby d2_23) k) ?_
      by_cases c25 : p1 = (9 : Int32)
      · refine own_step (T' := s₁) (g' := (mkF m 44 #[.val (.int p1), .val (.int b1), .unset, .unset, .unset] [])) (fun t k => XS.icmpYes X0.here hx rfl (pc0 := 25) (pc' := 44) rfl (hb hby d2_25) rfl (teq c25).1 (by decide) (by decide) k) ?_
        refine own_step (T' := s₁) (g' := (mkF m 45 #[.val (.int p1), .val (.int b1), .unset, .unset, .unset] [(.int (0 : Int32))])) (fun t k => XS.iconst X0.here hx rfl (hb hby d2_44) k) ?_
        exact j45 0 (Or.inr ⟨rfl, by unfold own_e2; rintro ⟨q1, q2, q3, q4⟩; contradiction⟩)
      · refine own_step (T' := s₁) (g' := (mkF m 28 #[.val (.int p1), .val (.int b1), .unset, .unset, .unset] [])) (fun t k => XS.icmpNo X0.here hx rfl (hb hby d2_25) rfl (feq c25).1 k) ?_
        refine own_step (T' := s₁) (g' := (mkF m 29 #[.val (.int p1), .val (.int b1), .unset, .unset, .unset] [(.int p1)])) (fun t k => XS.iloadN X0.here hx rfl (hb hby d2_28) rfl k) ?_
        refine own_step (T' := s₁) (g' := (mkF m 31 #[.val (.int p1), .val (.int b1), .unset, .unset, .unset] [(.int (10 : Int32)), (.int p1)])) (fun t k => XS.bipush X0.here hx rfl (hb hby d2_29) k) ?_
        by_cases c31 : p1 = (10 : Int32)
        · refine own_step (T' := s₁) (g' := (mkF m 44 #[.val (.int p1), .val (.int b1), .unset, .unset, .unset] [])) (fun t k => XS.icmpYes X0.here hx rfl (pc0 := 31) (pc' := 44) rfl (hb hby d2_31) rfl (teq c31).1 (by decide) (by decide) k) ?_
          refine own_step (T' := s₁) (g' := (mkF m 45 #[.val (.int p1), .val (.int b1), .unset, .unset, .unset] [(.int (0 : Int32))])) (fun t k => XS.iconst X0.here hx rfl (hb hby d2_44) k) ?_
          exact j45 0 (Or.inr ⟨rfl, by unfold own_e2; rintro ⟨q1, q2, q3, q4⟩; contradiction⟩)
        · refine own_step (T' := s₁) (g' := (mkF m 34 #[.val (.int p1), .val (.int b1), .unset, .unset, .unset] [])) (fun t k => XS.icmpNo X0.here hx rfl (hb hby d2_31) rfl (feq c31).1 k) ?_
          refine own_step (T' := s₁) (g' := (mkF m 35 #[.val (.int p1), .val (.int b1), .unset, .unset, .unset] [(.int p1)])) (fun t k => XS.iloadN X0.here hx rfl (hb hby d2_34) rfl k) ?_
          refine own_step (T' := s₁) (g' := (mkF m 37 #[.val (.int p1), .val (.int b1), .unset, .unset, .unset] [(.int (13 : Int32)), (.int p1)])) (fun t k => XS.bipush X0.here hx rfl (hb hby d2_35) k) ?_
          by_cases c37 : p1 = (13 : Int32)
          · refine own_step (T' := s₁) (g' := (mkF m 44 #[.val (.int p1), .val (.int b1), .unset, .unset, .unset] [])) (fun t k => XS.icmpYes X0.here hx rfl (pc0 := 37) (pc' := 44) rfl (hb hby d2_37) rfl (teq c37).1 (by decide) (by decide) k) ?_
            refine own_step (T' := s₁) (g' := (mkF m 45 #[.val (.int p1), .val (.int b1), .unset, .unset, .unset] [(.int (0 : Int32))])) (fun t k => XS.iconst X0.here hx rfl (hb hby d2_44) k) ?_
            exact j45 0 (Or.inr ⟨rfl, by unfold own_e2; rintro ⟨q1, q2, q3, q4⟩; contradiction⟩)
          · refine own_step (T' := s₁) (g' := (mkF m 40 #[.val (.int p1), .val (.int b1), .unset, .unset, .unset] [])) (fun t k => XS.icmpNo X0.here hx rfl (hb hby d2_37) rfl (feq c37).1 k) ?_
            refine own_step (T' := s₁) (g' := (mkF m 41 #[.val (.int p1), .val (.int b1), .unset, .unset, .unset] [(.int (1 : Int32))])) (fun t k => XS.iconst X0.here hx rfl (hb hby d2_40) k) ?_
            refine own_step (T' := s₁) (g' := (mkF m 45 #[.val (.int p1), .val (.int b1), .unset, .unset, .unset] [(.int (1 : Int32))])) (fun t k => XS.goto X0.here hx rfl (pc0 := 41) (pc' := 45) rfl (hb hby d2_41) (by decide) (by decide) k) ?_
            exact j45 1 (Or.inl ⟨rfl, by unfold own_e2; exact ⟨by assumption, by assumption, by assumption, by assumption⟩⟩)
    · refine own_step (T' := s₁) (g' := (mkF m 44 #[.val (.int p1), .val (.int b1), .unset, .unset, .unset] [])) (fun t k => XS.icmpYes X0.here hx rfl (pc0 := 19) (pc' := 44) rfl (hb hby d2_19) rfl (flt c19).2.1 (by decide) (by decide) k) ?_
      refine own_step (T' := s₁) (g' := (mkF m 45 #[.val (.int p1), .val (.int b1), .unset, .unset, .unset] [(.int (0 : Int32))])) (fun t k => XS.iconst X0.here hx rfl (hb hby d2_44) k) ?_
      exact j45 0 (Or.inr ⟨rfl, by unfold own_e2; rintro ⟨q1, q2, q3, q4⟩; contradiction⟩)
  by_cases c1 : p1 < (0 : Int32)
  · refine own_step (T' := s₁) (g' := (mkF m 14 #[.val (.int p1), .unset, .unset, .unset, .unset] [])) (fun t k => XS.ifYes X0.here hx rfl (pc0 := 1) (pc' := 14) rfl (hb hby d2_1) rfl ((if0 _ _).trans (tlt c1).1) (by decide) (by decide) k) ?_
    refine own_step (T' := s₁) (g' := (mkF m 15 #[.val (.int p1), .unset, .unset, .unset, .unset] [(.int (0 : Int32))])) (fun t k => XS.iconst X0.here hx rfl (hb hby d2_14) k) ?_
    exact j15 0 (Or.inr ⟨rfl, by unfold own_e1; rintro ⟨q1, q2⟩; contradiction⟩)
  · refine own_step (T' := s₁) (g' := (mkF m 4 #[.val (.int p1), .unset, .unset, .unset, .unset] [])) (fun t k => XS.ifNo X0.here hx rfl (hb hby d2_1) rfl ((if0 _ _).trans (flt c1).1) k) ?_
    refine own_step (T' := s₁) (g' := (mkF m 5 #[.val (.int p1), .unset, .unset, .unset, .unset] [(.int p1)])) (fun t k => XS.iloadN X0.here hx rfl (hb hby d2_4) rfl k) ?_
    refine own_step (T' := s₁) (g' := (mkF m 7 #[.val (.int p1), .unset, .unset, .unset, .unset] [(.int (1114111 : Int32)), (.int p1)])) (X0.ldcInt hx hown (mvT hZ (hw _ (List.mem_of_getElem? (i := 8) rfl))) (g := (mkF m 5 #[.val (.int p1), .unset, .unset, .unset, .unset] [(.int p1)])) rfl (hb hby d2_5)) ?_
    by_cases c7 : (1114111 : Int32) < p1
    · refine own_step (T' := s₁) (g' := (mkF m 14 #[.val (.int p1), .unset, .unset, .unset, .unset] [])) (fun t k => XS.icmpYes X0.here hx rfl (pc0 := 7) (pc' := 14) rfl (hb hby d2_7) rfl (tlt c7).2.2.1 (by decide) (by decide) k) ?_
      refine own_step (T' := s₁) (g' := (mkF m 15 #[.val (.int p1), .unset, .unset, .unset, .unset] [(.int (0 : Int32))])) (fun t k => XS.iconst X0.here hx rfl (hb hby d2_14) k) ?_
      exact j15 0 (Or.inr ⟨rfl, by unfold own_e1; rintro ⟨q1, q2⟩; contradiction⟩)
    · refine own_step (T' := s₁) (g' := (mkF m 10 #[.val (.int p1), .unset, .unset, .unset, .unset] [])) (fun t k => XS.icmpNo X0.here hx rfl (hb hby d2_7) rfl (flt c7).2.2.1 k) ?_
      refine own_step (T' := s₁) (g' := (mkF m 11 #[.val (.int p1), .unset, .unset, .unset, .unset] [(.int (1 : Int32))])) (fun t k => XS.iconst X0.here hx rfl (hb hby d2_10) k) ?_
      refine own_step (T' := s₁) (g' := (mkF m 15 #[.val (.int p1), .unset, .unset, .unset, .unset] [(.int (1 : Int32))])) (fun t k => XS.goto X0.here hx rfl (pc0 := 11) (pc' := 15) rfl (hb hby d2_11) (by decide) (by decide) k) ?_
      exact j15 1 (Or.inl ⟨rfl, by unfold own_e1; exact ⟨by assumption, by assumption⟩⟩)
theorem own_fitI {v : Value} (h : fits .int v = true) : ∃ z, v = .int z := by cases v <;> simp_all [fits]
theorem own_sel (k : Int32) : ¬ (k &&& (15 : Int32)) < 0 ∧ (k &&& (15 : Int32)) < 16 := by
  have h : (k &&& (15 : Int32)).toInt = k.toInt % 2 ^ 4 := Jvm.Kit.i32_mask k 15 (k := 4) (by decide) (by decide)
  rw [Int32.lt_iff_toInt_lt, Int32.lt_iff_toInt_lt, h]
  have e1 : (0 : Int32).toInt = 0 := by decide
  have e2 : (16 : Int32).toInt = 16 := by decide
  rw [e1, e2]
  omega
def Q_law (n0 : Nat) (v : Option Value) (h : Heap) (L : List Loc) : Prop := v = some (.int 1) ∧ Fr n0 L
theorem ef_rm_law (m : MethodId) (x0 : Int32) (x1 : Int32) : entryFrame m #[(.int x0), (.int x1)] maxLocals = mkF m 0 #[.val (.int x0), .val (.int x1), .unset, .unset, .unset] [] := by first | rfl | (simp [entryFrame, mkF, argsToLocals, Value.category, maxLocals]; done) | (simp [entryFrame, mkF, argsToLocals, Value.category, maxLocals] <;> rfl)
theorem pd_0 : parseMethodDescriptor "(I)Z" = some ⟨[.int], some (.boolean)⟩ := by decide +kernel
set_option maxRecDepth 65536 in
set_option maxHeartbeats 40000000 in
theorem rm_law (l : Launch) (Z : State) (a0 : Array Value) (hw : ∀ d ∈ tables_1, d.before a0 Z = true) (ws : List Jvm.Cond) (p0 : Int32) (p1 : Int32) (h0 : Heap) (n0 : Nat) (Z0 : n0 ≤ h0.size)  :
    MetFree l x (head1 (Jvm.Cond.code x code maxLocals ret :: ws) room_1) (fun a U => a = #[(.int p0), (.int p1)] ∧ Z.Warmed39 U.vm ∧ U.heap = h0) (fun _ _ _ _ _ => True) (fun _ U o U' => ∃ v L, o = .returned v ∧ (Q_law n0) v U'.heap L ∧ FrameEnd U o U' L 16 128) := by
  refine MetFree.of_bodySF (plainFor_of_name pn_1) hisR ?_
  intro p e s m args below meth c s₁ Bd hml0 hP hK
  obtain ⟨rfl, hZ, hh⟩ := hP
  have hx := Bd.exec
  have hby := Bd.bytes
  have hlk : meth.locks = false := BodyLoose.notSynchronized Bd
  have hml : c.maxLocals = 5 := hml0
  have hown : s.vm.findClass "com/example/charter_for_federations/charterforfederations/xmlrpc/ResponseWriterCanCarryPinLaw" = some m.cls := findClass_of_methodNamed Bd.named
  have hnm := (name_of_methodNamed Bd.named Bd.method).1
  have X0 : Stand p l e room_1 s m #[(.int p0), (.int p1)] below meth c s₁ [] 0 0 := Stand.of_body Bd
  have e0 : s₁.heap = h0 := by rw [← hh, Bd.state]; rfl
  have N0 := Fr.nil n0
  show own_Go p e below s (Q_law n0) 16 128 s₁ (entryFrame m #[(.int p0), (.int p1)] maxLocals)
  refine own_cast (g' := (mkF m 0 #[.val (.int p0), .val (.int p1), .unset, .unset, .unset] [])) (ef_rm_law m p0 p1) ?_
  refine own_step (T' := s₁) (g' := (mkF m 2 #[.val (.int p0), .val (.int p1), .unset, .unset, .unset] [(.int (16 : Int32))])) (fun t k => XS.bipush X0.here hx rfl (hb hby at_0) k) ?_
  obtain ⟨T1, h1, k1, X1, e1, E1, A1, st1⟩ := newP X0 hx hZ (hw _ (List.mem_of_getElem? (i := 0) rfl)) e0 (g := (mkF m 2 #[.val (.int p0), .val (.int p1), .unset, .unset, .unset] [(.int (16 : Int32))])) rfl (hb hby at_2) rfl (by decide) (cap := 16) (by decide) (by decide) (by decide : 0 + 1 ≤ _) (by decide : 0 + 16 ≤ _)
  obtain ⟨a1, g_a1⟩ : ∃ z, z = h0.size := ⟨_, rfl⟩
  rw [← g_a1] at A1 st1
  have o1 : n0 ≤ a1 := (Nat.le_trans Z0 (Nat.le_of_eq g_a1.symm))
  have Z1 : n0 ≤ h1.size := (Nat.le_trans Z0 E1.1)
  have V1 : Arv Z h1 a1 k1 .int (16 : Int32) [(.int (0 : Int32)), (.int (0 : Int32)), (.int (0 : Int32)), (.int (0 : Int32)), (.int (0 : Int32)), (.int (0 : Int32)), (.int (0 : Int32)), (.int (0 : Int32)), (.int (0 : Int32)), (.int (0 : Int32)), (.int (0 : Int32)), (.int (0 : Int32)), (.int (0 : Int32)), (.int (0 : Int32)), (.int (0 : Int32)), (.int (0 : Int32))] (.int (0 : Int32)) := (Arv.new A1 (by decide)).pad (pad_rep [] (.int (0 : Int32)) 16)
  refine own_step (T' := T1) (g' := (mkF m 4 #[.val (.int p0), .val (.int p1), .unset, .unset, .unset] [(.ref a1)])) st1 ?_
  refine own_step (T' := T1) (g' := (mkF m 5 #[.val (.int p0), .val (.int p1), .unset, .unset, .unset] [(.ref a1), (.ref a1)])) (fun t k => XS.dup X1.here hx rfl (hb hby at_4) rfl rfl k) ?_
  refine own_step (T' := T1) (g' := (mkF m 6 #[.val (.int p0), .val (.int p1), .unset, .unset, .unset] [(.int (0 : Int32)), (.ref a1), (.ref a1)])) (fun t k => XS.iconst X1.here hx rfl (hb hby at_5) k) ?_
  refine own_step (T' := T1) (g' := (mkF m 7 #[.val (.int p0), .val (.int p1), .unset, .unset, .unset] [(.int (0 : Int32)), (.int (0 : Int32)), (.ref a1), (.ref a1)])) (fun t k => XS.iconst X1.here hx rfl (hb hby at_6) k) ?_
  obtain ⟨c2, Ar2, q2, S2, M2, H2, U2⟩ := id V1
  obtain ⟨T2, h2, X2, e2, W2, st2⟩ := stI X1 hx hZ e1 Ar2 (j := (0 : Int32)) (inb_of S2 ⟨by decide, by decide⟩) (g := (mkF m 7 #[.val (.int p0), .val (.int p1), .unset, .unset, .unset] [(.int (0 : Int32)), (.int (0 : Int32)), (.ref a1), (.ref a1)])) rfl rfl (hb hby at_7)
  have g3 : Arv Z h2 a1 k1 .int (16 : Int32) [(.int (0 : Int32)), (.int (0 : Int32)), (.int (0 : Int32)), (.int (0 : Int32)), (.int (0 : Int32)), (.int (0 : Int32)), (.int (0 : Int32)), (.int (0 : Int32)), (.int (0 : Int32)), (.int (0 : Int32)), (.int (0 : Int32)), (.int (0 : Int32)), (.int (0 : Int32)), (.int (0 : Int32)), (.int (0 : Int32)), (.int (0 : Int32))] (.int (0 : Int32)) := Arv.set Ar2 q2 S2 M2 H2 U2 rfl W2 0 rfl (by decide)
  have N2 := Fr.snoc X2 N0 o1
  have Z2 : n0 ≤ h2.size := (Nat.le_trans Z1 (Nat.le_of_eq W2.size.symm))
  refine own_step (T' := T2) (g' := (mkF m 8 #[.val (.int p0), .val (.int p1), .unset, .unset, .unset] [(.ref a1)])) st2 ?_
  refine own_step (T' := T2) (g' := (mkF m 9 #[.val (.int p0), .val (.int p1), .unset, .unset, .unset] [(.ref a1), (.ref a1)])) (fun t k => XS.dup X2.here hx rfl (hb hby at_8) rfl rfl k) ?_
  refine own_step (T' := T2) (g' := (mkF m 10 #[.val (.int p0), .val (.int p1), .unset, .unset, .unset] [(.int (1 : Int32)), (.ref a1), (.ref a1)])) (fun t k => XS.iconst X2.here hx rfl (hb hby at_9) k) ?_
  refine own_step (T' := T2) (g' := (mkF m 11 #[.val (.int p0), .val (.int p1), .unset, .unset, .unset] [(.int (0 : Int32)), (.int (1 : Int32)), (.ref a1), (.ref a1)])) (fun t k => XS.iconst X2.here hx rfl (hb hby at_10) k) ?_
  obtain ⟨c4, Ar4, q4, S4, M4, H4, U4⟩ := id g3
  obtain ⟨T4, h4, X4, e4, W4, st4⟩ := stI X2 hx hZ e2 Ar4 (j := (1 : Int32)) (inb_of S4 ⟨by decide, by decide⟩) (g := (mkF m 11 #[.val (.int p0), .val (.int p1), .unset, .unset, .unset] [(.int (0 : Int32)), (.int (1 : Int32)), (.ref a1), (.ref a1)])) rfl rfl (hb hby at_11)
  have g5 : Arv Z h4 a1 k1 .int (16 : Int32) [(.int (0 : Int32)), (.int (0 : Int32)), (.int (0 : Int32)), (.int (0 : Int32)), (.int (0 : Int32)), (.int (0 : Int32)), (.int (0 : Int32)), (.int (0 : Int32)), (.int (0 : Int32)), (.int (0 : Int32)), (.int (0 : Int32)), (.int (0 : Int32)), (.int (0 : Int32)), (.int (0 : Int32)), (.int (0 : Int32)), (.int (0 : Int32))] (.int (0 : Int32)) := Arv.set Ar4 q4 S4 M4 H4 U4 rfl W4 1 rfl (by decide)
  have N4 := Fr.snoc X4 N2 o1
  have Z4 : n0 ≤ h4.size := (Nat.le_trans Z2 (Nat.le_of_eq W4.size.symm))
  refine own_step (T' := T4) (g' := (mkF m 12 #[.val (.int p0), .val (.int p1), .unset, .unset, .unset] [(.ref a1)])) st4 ?_
  refine own_step (T' := T4) (g' := (mkF m 13 #[.val (.int p0), .val (.int p1), .unset, .unset, .unset] [(.ref a1), (.ref a1)])) (fun t k => XS.dup X4.here hx rfl (hb hby at_12) rfl rfl k) ?_
  refine own_step (T' := T4) (g' := (mkF m 14 #[.val (.int p0), .val (.int p1), .unset, .unset, .unset] [(.int (2 : Int32)), (.ref a1), (.ref a1)])) (fun t k => XS.iconst X4.here hx rfl (hb hby at_13) k) ?_
  refine own_step (T' := T4) (g' := (mkF m 16 #[.val (.int p0), .val (.int p1), .unset, .unset, .unset] [(.int (9 : Int32)), (.int (2 : Int32)), (.ref a1), (.ref a1)])) (fun t k => XS.bipush X4.here hx rfl (hb hby at_14) k) ?_
  obtain ⟨c6, Ar6, q6, S6, M6, H6, U6⟩ := id g5
  obtain ⟨T6, h6, X6, e6, W6, st6⟩ := stI X4 hx hZ e4 Ar6 (j := (2 : Int32)) (inb_of S6 ⟨by decide, by decide⟩) (g := (mkF m 16 #[.val (.int p0), .val (.int p1), .unset, .unset, .unset] [(.int (9 : Int32)), (.int (2 : Int32)), (.ref a1), (.ref a1)])) rfl rfl (hb hby at_16)
  have g7 : Arv Z h6 a1 k1 .int (16 : Int32) [(.int (0 : Int32)), (.int (0 : Int32)), (.int (9 : Int32)), (.int (0 : Int32)), (.int (0 : Int32)), (.int (0 : Int32)), (.int (0 : Int32)), (.int (0 : Int32)), (.int (0 : Int32)), (.int (0 : Int32)), (.int (0 : Int32)), (.int (0 : Int32)), (.int (0 : Int32)), (.int (0 : Int32)), (.int (0 : Int32)), (.int (0 : Int32))] (.int (0 : Int32)) := Arv.set Ar6 q6 S6 M6 H6 U6 rfl W6 2 rfl (by decide)
  have N6 := Fr.snoc X6 N4 o1
  have Z6 : n0 ≤ h6.size := (Nat.le_trans Z4 (Nat.le_of_eq W6.size.symm))
  refine own_step (T' := T6) (g' := (mkF m 17 #[.val (.int p0), .val (.int p1), .unset, .unset, .unset] [(.ref a1)])) st6 ?_
  refine own_step (T' := T6) (g' := (mkF m 18 #[.val (.int p0), .val (.int p1), .unset, .unset, .unset] [(.ref a1), (.ref a1)])) (fun t k => XS.dup X6.here hx rfl (hb hby at_17) rfl rfl k) ?_
  refine own_step (T' := T6) (g' := (mkF m 19 #[.val (.int p0), .val (.int p1), .unset, .unset, .unset] [(.int (3 : Int32)), (.ref a1), (.ref a1)])) (fun t k => XS.iconst X6.here hx rfl (hb hby at_18) k) ?_
  refine own_step (T' := T6) (g' := (mkF m 21 #[.val (.int p0), .val (.int p1), .unset, .unset, .unset] [(.int (13 : Int32)), (.int (3 : Int32)), (.ref a1), (.ref a1)])) (fun t k => XS.bipush X6.here hx rfl (hb hby at_19) k) ?_
  obtain ⟨c8, Ar8, q8, S8, M8, H8, U8⟩ := id g7
  obtain ⟨T8, h8, X8, e8, W8, st8⟩ := stI X6 hx hZ e6 Ar8 (j := (3 : Int32)) (inb_of S8 ⟨by decide, by decide⟩) (g := (mkF m 21 #[.val (.int p0), .val (.int p1), .unset, .unset, .unset] [(.int (13 : Int32)), (.int (3 : Int32)), (.ref a1), (.ref a1)])) rfl rfl (hb hby at_21)
  have g9 : Arv Z h8 a1 k1 .int (16 : Int32) [(.int (0 : Int32)), (.int (0 : Int32)), (.int (9 : Int32)), (.int (13 : Int32)), (.int (0 : Int32)), (.int (0 : Int32)), (.int (0 : Int32)), (.int (0 : Int32)), (.int (0 : Int32)), (.int (0 : Int32)), (.int (0 : Int32)), (.int (0 : Int32)), (.int (0 : Int32)), (.int (0 : Int32)), (.int (0 : Int32)), (.int (0 : Int32))] (.int (0 : Int32)) := Arv.set Ar8 q8 S8 M8 H8 U8 rfl W8 3 rfl (by decide)
  have N8 := Fr.snoc X8 N6 o1
  have Z8 : n0 ≤ h8.size := (Nat.le_trans Z6 (Nat.le_of_eq W8.size.symm))
  refine own_step (T' := T8) (g' := (mkF m 22 #[.val (.int p0), .val (.int p1), .unset, .unset, .unset] [(.ref a1)])) st8 ?_
  refine own_step (T' := T8) (g' := (mkF m 23 #[.val (.int p0), .val (.int p1), .unset, .unset, .unset] [(.ref a1), (.ref a1)])) (fun t k => XS.dup X8.here hx rfl (hb hby at_22) rfl rfl k) ?_
  refine own_step (T' := T8) (g' := (mkF m 24 #[.val (.int p0), .val (.int p1), .unset, .unset, .unset] [(.int (4 : Int32)), (.ref a1), (.ref a1)])) (fun t k => XS.iconst X8.here hx rfl (hb hby at_23) k) ?_
  refine own_step (T' := T8) (g' := (mkF m 26 #[.val (.int p0), .val (.int p1), .unset, .unset, .unset] [(.int (32 : Int32)), (.int (4 : Int32)), (.ref a1), (.ref a1)])) (fun t k => XS.bipush X8.here hx rfl (hb hby at_24) k) ?_
  obtain ⟨c10, Ar10, q10, S10, M10, H10, U10⟩ := id g9
  obtain ⟨T10, h10, X10, e10, W10, st10⟩ := stI X8 hx hZ e8 Ar10 (j := (4 : Int32)) (inb_of S10 ⟨by decide, by decide⟩) (g := (mkF m 26 #[.val (.int p0), .val (.int p1), .unset, .unset, .unset] [(.int (32 : Int32)), (.int (4 : Int32)), (.ref a1), (.ref a1)])) rfl rfl (hb hby at_26)
  have g11 : Arv Z h10 a1 k1 .int (16 : Int32) [(.int (0 : Int32)), (.int (0 : Int32)), (.int (9 : Int32)), (.int (13 : Int32)), (.int (32 : Int32)), (.int (0 : Int32)), (.int (0 : Int32)), (.int (0 : Int32)), (.int (0 : Int32)), (.int (0 : Int32)), (.int (0 : Int32)), (.int (0 : Int32)), (.int (0 : Int32)), (.int (0 : Int32)), (.int (0 : Int32)), (.int (0 : Int32))] (.int (0 : Int32)) := Arv.set Ar10 q10 S10 M10 H10 U10 rfl W10 4 rfl (by decide)
  have N10 := Fr.snoc X10 N8 o1
  have Z10 : n0 ≤ h10.size := (Nat.le_trans Z8 (Nat.le_of_eq W10.size.symm))
  refine own_step (T' := T10) (g' := (mkF m 27 #[.val (.int p0), .val (.int p1), .unset, .unset, .unset] [(.ref a1)])) st10 ?_
  refine own_step (T' := T10) (g' := (mkF m 28 #[.val (.int p0), .val (.int p1), .unset, .unset, .unset] [(.ref a1), (.ref a1)])) (fun t k => XS.dup X10.here hx rfl (hb hby at_27) rfl rfl k) ?_
  refine own_step (T' := T10) (g' := (mkF m 29 #[.val (.int p0), .val (.int p1), .unset, .unset, .unset] [(.int (5 : Int32)), (.ref a1), (.ref a1)])) (fun t k => XS.iconst X10.here hx rfl (hb hby at_28) k) ?_
  refine own_step (T' := T10) (g' := (mkF m 31 #[.val (.int p0), .val (.int p1), .unset, .unset, .unset] [(.int (55295 : Int32)), (.int (5 : Int32)), (.ref a1), (.ref a1)])) (X10.ldcInt hx hown (mvT hZ (hw _ (List.mem_of_getElem? (i := 1) rfl))) (g := (mkF m 29 #[.val (.int p0), .val (.int p1), .unset, .unset, .unset] [(.int (5 : Int32)), (.ref a1), (.ref a1)])) rfl (hb hby at_29)) ?_
  obtain ⟨c12, Ar12, q12, S12, M12, H12, U12⟩ := id g11
  obtain ⟨T12, h12, X12, e12, W12, st12⟩ := stI X10 hx hZ e10 Ar12 (j := (5 : Int32)) (inb_of S12 ⟨by decide, by decide⟩) (g := (mkF m 31 #[.val (.int p0), .val (.int p1), .unset, .unset, .unset] [(.int (55295 : Int32)), (.int (5 : Int32)), (.ref a1), (.ref a1)])) rfl rfl (hb hby at_31)
  have g13 : Arv Z h12 a1 k1 .int (16 : Int32) [(.int (0 : Int32)), (.int (0 : Int32)), (.int (9 : Int32)), (.int (13 : Int32)), (.int (32 : Int32)), (.int (55295 : Int32)), (.int (0 : Int32)), (.int (0 : Int32)), (.int (0 : Int32)), (.int (0 : Int32)), (.int (0 : Int32)), (.int (0 : Int32)), (.int (0 : Int32)), (.int (0 : Int32)), (.int (0 : Int32)), (.int (0 : Int32))] (.int (0 : Int32)) := Arv.set Ar12 q12 S12 M12 H12 U12 rfl W12 5 rfl (by decide)
  have N12 := Fr.snoc X12 N10 o1
  have Z12 : n0 ≤ h12.size := (Nat.le_trans Z10 (Nat.le_of_eq W12.size.symm))
  refine own_step (T' := T12) (g' := (mkF m 32 #[.val (.int p0), .val (.int p1), .unset, .unset, .unset] [(.ref a1)])) st12 ?_
  refine own_step (T' := T12) (g' := (mkF m 33 #[.val (.int p0), .val (.int p1), .unset, .unset, .unset] [(.ref a1), (.ref a1)])) (fun t k => XS.dup X12.here hx rfl (hb hby at_32) rfl rfl k) ?_
  refine own_step (T' := T12) (g' := (mkF m 35 #[.val (.int p0), .val (.int p1), .unset, .unset, .unset] [(.int (6 : Int32)), (.ref a1), (.ref a1)])) (fun t k => XS.bipush X12.here hx rfl (hb hby at_33) k) ?_
  refine own_step (T' := T12) (g' := (mkF m 37 #[.val (.int p0), .val (.int p1), .unset, .unset, .unset] [(.int (55296 : Int32)), (.int (6 : Int32)), (.ref a1), (.ref a1)])) (X12.ldcInt hx hown (mvT hZ (hw _ (List.mem_of_getElem? (i := 2) rfl))) (g := (mkF m 35 #[.val (.int p0), .val (.int p1), .unset, .unset, .unset] [(.int (6 : Int32)), (.ref a1), (.ref a1)])) rfl (hb hby at_35)) ?_
  obtain ⟨c14, Ar14, q14, S14, M14, H14, U14⟩ := id g13
  obtain ⟨T14, h14, X14, e14, W14, st14⟩ := stI X12 hx hZ e12 Ar14 (j := (6 : Int32)) (inb_of S14 ⟨by decide, by decide⟩) (g := (mkF m 37 #[.val (.int p0), .val (.int p1), .unset, .unset, .unset] [(.int (55296 : Int32)), (.int (6 : Int32)), (.ref a1), (.ref a1)])) rfl rfl (hb hby at_37)
  have g15 : Arv Z h14 a1 k1 .int (16 : Int32) [(.int (0 : Int32)), (.int (0 : Int32)), (.int (9 : Int32)), (.int (13 : Int32)), (.int (32 : Int32)), (.int (55295 : Int32)), (.int (55296 : Int32)), (.int (0 : Int32)), (.int (0 : Int32)), (.int (0 : Int32)), (.int (0 : Int32)), (.int (0 : Int32)), (.int (0 : Int32)), (.int (0 : Int32)), (.int (0 : Int32)), (.int (0 : Int32))] (.int (0 : Int32)) := Arv.set Ar14 q14 S14 M14 H14 U14 rfl W14 6 rfl (by decide)
  have N14 := Fr.snoc X14 N12 o1
  have Z14 : n0 ≤ h14.size := (Nat.le_trans Z12 (Nat.le_of_eq W14.size.symm))
  refine own_step (T' := T14) (g' := (mkF m 38 #[.val (.int p0), .val (.int p1), .unset, .unset, .unset] [(.ref a1)])) st14 ?_
  refine own_step (T' := T14) (g' := (mkF m 39 #[.val (.int p0), .val (.int p1), .unset, .unset, .unset] [(.ref a1), (.ref a1)])) (fun t k => XS.dup X14.here hx rfl (hb hby at_38) rfl rfl k) ?_
  refine own_step (T' := T14) (g' := (mkF m 41 #[.val (.int p0), .val (.int p1), .unset, .unset, .unset] [(.int (7 : Int32)), (.ref a1), (.ref a1)])) (fun t k => XS.bipush X14.here hx rfl (hb hby at_39) k) ?_
  refine own_step (T' := T14) (g' := (mkF m 43 #[.val (.int p0), .val (.int p1), .unset, .unset, .unset] [(.int (57343 : Int32)), (.int (7 : Int32)), (.ref a1), (.ref a1)])) (X14.ldcInt hx hown (mvT hZ (hw _ (List.mem_of_getElem? (i := 3) rfl))) (g := (mkF m 41 #[.val (.int p0), .val (.int p1), .unset, .unset, .unset] [(.int (7 : Int32)), (.ref a1), (.ref a1)])) rfl (hb hby at_41)) ?_
  obtain ⟨c16, Ar16, q16, S16, M16, H16, U16⟩ := id g15
  obtain ⟨T16, h16, X16, e16, W16, st16⟩ := stI X14 hx hZ e14 Ar16 (j := (7 : Int32)) (inb_of S16 ⟨by decide, by decide⟩) (g := (mkF m 43 #[.val (.int p0), .val (.int p1), .unset, .unset, .unset] [(.int (57343 : Int32)), (.int (7 : Int32)), (.ref a1), (.ref a1)])) rfl rfl (hb hby at_43)
  have g17 : Arv Z h16 a1 k1 .int (16 : Int32) [(.int (0 : Int32)), (.int (0 : Int32)), (.int (9 : Int32)), (.int (13 : Int32)), (.int (32 : Int32)), (.int (55295 : Int32)), (.int (55296 : Int32)), (.int (57343 : Int32)), (.int (0 : Int32)), (.int (0 : Int32)), (.int (0 : Int32)), (.int (0 : Int32)), (.int (0 : Int32)), (.int (0 : Int32)), (.int (0 : Int32)), (.int (0 : Int32))] (.int (0 : Int32)) := Arv.set Ar16 q16 S16 M16 H16 U16 rfl W16 7 rfl (by decide)
  have N16 := Fr.snoc X16 N14 o1
  have Z16 : n0 ≤ h16.size := (Nat.le_trans Z14 (Nat.le_of_eq W16.size.symm))
  refine own_step (T' := T16) (g' := (mkF m 44 #[.val (.int p0), .val (.int p1), .unset, .unset, .unset] [(.ref a1)])) st16 ?_
  refine own_step (T' := T16) (g' := (mkF m 45 #[.val (.int p0), .val (.int p1), .unset, .unset, .unset] [(.ref a1), (.ref a1)])) (fun t k => XS.dup X16.here hx rfl (hb hby at_44) rfl rfl k) ?_
  refine own_step (T' := T16) (g' := (mkF m 47 #[.val (.int p0), .val (.int p1), .unset, .unset, .unset] [(.int (8 : Int32)), (.ref a1), (.ref a1)])) (fun t k => XS.bipush X16.here hx rfl (hb hby at_45) k) ?_
  refine own_step (T' := T16) (g' := (mkF m 49 #[.val (.int p0), .val (.int p1), .unset, .unset, .unset] [(.int (57344 : Int32)), (.int (8 : Int32)), (.ref a1), (.ref a1)])) (X16.ldcInt hx hown (mvT hZ (hw _ (List.mem_of_getElem? (i := 4) rfl))) (g := (mkF m 47 #[.val (.int p0), .val (.int p1), .unset, .unset, .unset] [(.int (8 : Int32)), (.ref a1), (.ref a1)])) rfl (hb hby at_47)) ?_
  obtain ⟨c18, Ar18, q18, S18, M18, H18, U18⟩ := id g17
  obtain ⟨T18, h18, X18, e18, W18, st18⟩ := stI X16 hx hZ e16 Ar18 (j := (8 : Int32)) (inb_of S18 ⟨by decide, by decide⟩) (g := (mkF m 49 #[.val (.int p0), .val (.int p1), .unset, .unset, .unset] [(.int (57344 : Int32)), (.int (8 : Int32)), (.ref a1), (.ref a1)])) rfl rfl (hb hby at_49)
  have g19 : Arv Z h18 a1 k1 .int (16 : Int32) [(.int (0 : Int32)), (.int (0 : Int32)), (.int (9 : Int32)), (.int (13 : Int32)), (.int (32 : Int32)), (.int (55295 : Int32)), (.int (55296 : Int32)), (.int (57343 : Int32)), (.int (57344 : Int32)), (.int (0 : Int32)), (.int (0 : Int32)), (.int (0 : Int32)), (.int (0 : Int32)), (.int (0 : Int32)), (.int (0 : Int32)), (.int (0 : Int32))] (.int (0 : Int32)) := Arv.set Ar18 q18 S18 M18 H18 U18 rfl W18 8 rfl (by decide)
  have N18 := Fr.snoc X18 N16 o1
  have Z18 : n0 ≤ h18.size := (Nat.le_trans Z16 (Nat.le_of_eq W18.size.symm))
  refine own_step (T' := T18) (g' := (mkF m 50 #[.val (.int p0), .val (.int p1), .unset, .unset, .unset] [(.ref a1)])) st18 ?_
  refine own_step (T' := T18) (g' := (mkF m 51 #[.val (.int p0), .val (.int p1), .unset, .unset, .unset] [(.ref a1), (.ref a1)])) (fun t k => XS.dup X18.here hx rfl (hb hby at_50) rfl rfl k) ?_
  refine own_step (T' := T18) (g' := (mkF m 53 #[.val (.int p0), .val (.int p1), .unset, .unset, .unset] [(.int (9 : Int32)), (.ref a1), (.ref a1)])) (fun t k => XS.bipush X18.here hx rfl (hb hby at_51) k) ?_
  refine own_step (T' := T18) (g' := (mkF m 55 #[.val (.int p0), .val (.int p1), .unset, .unset, .unset] [(.int (65533 : Int32)), (.int (9 : Int32)), (.ref a1), (.ref a1)])) (X18.ldcInt hx hown (mvT hZ (hw _ (List.mem_of_getElem? (i := 5) rfl))) (g := (mkF m 53 #[.val (.int p0), .val (.int p1), .unset, .unset, .unset] [(.int (9 : Int32)), (.ref a1), (.ref a1)])) rfl (hb hby at_53)) ?_
  obtain ⟨c20, Ar20, q20, S20, M20, H20, U20⟩ := id g19
  obtain ⟨T20, h20, X20, e20, W20, st20⟩ := stI X18 hx hZ e18 Ar20 (j := (9 : Int32)) (inb_of S20 ⟨by decide, by decide⟩) (g := (mkF m 55 #[.val (.int p0), .val (.int p1), .unset, .unset, .unset] [(.int (65533 : Int32)), (.int (9 : Int32)), (.ref a1), (.ref a1)])) rfl rfl (hb hby at_55)
  have g21 : Arv Z h20 a1 k1 .int (16 : Int32) [(.int (0 : Int32)), (.int (0 : Int32)), (.int (9 : Int32)), (.int (13 : Int32)), (.int (32 : Int32)), (.int (55295 : Int32)), (.int (55296 : Int32)), (.int (57343 : Int32)), (.int (57344 : Int32)), (.int (65533 : Int32)), (.int (0 : Int32)), (.int (0 : Int32)), (.int (0 : Int32)), (.int (0 : Int32)), (.int (0 : Int32)), (.int (0 : Int32))] (.int (0 : Int32)) := Arv.set Ar20 q20 S20 M20 H20 U20 rfl W20 9 rfl (by decide)
  have N20 := Fr.snoc X20 N18 o1
  have Z20 : n0 ≤ h20.size := (Nat.le_trans Z18 (Nat.le_of_eq W20.size.symm))
  refine own_step (T' := T20) (g' := (mkF m 56 #[.val (.int p0), .val (.int p1), .unset, .unset, .unset] [(.ref a1)])) st20 ?_
  refine own_step (T' := T20) (g' := (mkF m 57 #[.val (.int p0), .val (.int p1), .unset, .unset, .unset] [(.ref a1), (.ref a1)])) (fun t k => XS.dup X20.here hx rfl (hb hby at_56) rfl rfl k) ?_
  refine own_step (T' := T20) (g' := (mkF m 59 #[.val (.int p0), .val (.int p1), .unset, .unset, .unset] [(.int (10 : Int32)), (.ref a1), (.ref a1)])) (fun t k => XS.bipush X20.here hx rfl (hb hby at_57) k) ?_
  refine own_step (T' := T20) (g' := (mkF m 61 #[.val (.int p0), .val (.int p1), .unset, .unset, .unset] [(.int (65534 : Int32)), (.int (10 : Int32)), (.ref a1), (.ref a1)])) (X20.ldcInt hx hown (mvT hZ (hw _ (List.mem_of_getElem? (i := 6) rfl))) (g := (mkF m 59 #[.val (.int p0), .val (.int p1), .unset, .unset, .unset] [(.int (10 : Int32)), (.ref a1), (.ref a1)])) rfl (hb hby at_59)) ?_
  obtain ⟨c22, Ar22, q22, S22, M22, H22, U22⟩ := id g21
  obtain ⟨T22, h22, X22, e22, W22, st22⟩ := stI X20 hx hZ e20 Ar22 (j := (10 : Int32)) (inb_of S22 ⟨by decide, by decide⟩) (g := (mkF m 61 #[.val (.int p0), .val (.int p1), .unset, .unset, .unset] [(.int (65534 : Int32)), (.int (10 : Int32)), (.ref a1), (.ref a1)])) rfl rfl (hb hby at_61)
  have g23 : Arv Z h22 a1 k1 .int (16 : Int32) [(.int (0 : Int32)), (.int (0 : Int32)), (.int (9 : Int32)), (.int (13 : Int32)), (.int (32 : Int32)), (.int (55295 : Int32)), (.int (55296 : Int32)), (.int (57343 : Int32)), (.int (57344 : Int32)), (.int (65533 : Int32)), (.int (65534 : Int32)), (.int (0 : Int32)), (.int (0 : Int32)), (.int (0 : Int32)), (.int (0 : Int32)), (.int (0 : Int32))] (.int (0 : Int32)) := Arv.set Ar22 q22 S22 M22 H22 U22 rfl W22 10 rfl (by decide)
  have N22 := Fr.snoc X22 N20 o1
  have Z22 : n0 ≤ h22.size := (Nat.le_trans Z20 (Nat.le_of_eq W22.size.symm))
  refine own_step (T' := T22) (g' := (mkF m 62 #[.val (.int p0), .val (.int p1), .unset, .unset, .unset] [(.ref a1)])) st22 ?_
  refine own_step (T' := T22) (g' := (mkF m 63 #[.val (.int p0), .val (.int p1), .unset, .unset, .unset] [(.ref a1), (.ref a1)])) (fun t k => XS.dup X22.here hx rfl (hb hby at_62) rfl rfl k) ?_
  refine own_step (T' := T22) (g' := (mkF m 65 #[.val (.int p0), .val (.int p1), .unset, .unset, .unset] [(.int (11 : Int32)), (.ref a1), (.ref a1)])) (fun t k => XS.bipush X22.here hx rfl (hb hby at_63) k) ?_
  refine own_step (T' := T22) (g' := (mkF m 67 #[.val (.int p0), .val (.int p1), .unset, .unset, .unset] [(.int (65536 : Int32)), (.int (11 : Int32)), (.ref a1), (.ref a1)])) (X22.ldcInt hx hown (mvT hZ (hw _ (List.mem_of_getElem? (i := 7) rfl))) (g := (mkF m 65 #[.val (.int p0), .val (.int p1), .unset, .unset, .unset] [(.int (11 : Int32)), (.ref a1), (.ref a1)])) rfl (hb hby at_65)) ?_
  obtain ⟨c24, Ar24, q24, S24, M24, H24, U24⟩ := id g23
  obtain ⟨T24, h24, X24, e24, W24, st24⟩ := stI X22 hx hZ e22 Ar24 (j := (11 : Int32)) (inb_of S24 ⟨by decide, by decide⟩) (g := (mkF m 67 #[.val (.int p0), .val (.int p1), .unset, .unset, .unset] [(.int (65536 : Int32)), (.int (11 : Int32)), (.ref a1), (.ref a1)])) rfl rfl (hb hby at_67)
  have g25 : Arv Z h24 a1 k1 .int (16 : Int32) [(.int (0 : Int32)), (.int (0 : Int32)), (.int (9 : Int32)), (.int (13 : Int32)), (.int (32 : Int32)), (.int (55295 : Int32)), (.int (55296 : Int32)), (.int (57343 : Int32)), (.int (57344 : Int32)), (.int (65533 : Int32)), (.int (65534 : Int32)), (.int (65536 : Int32)), (.int (0 : Int32)), (.int (0 : Int32)), (.int (0 : Int32)), (.int (0 : Int32))] (.int (0 : Int32)) := Arv.set Ar24 q24 S24 M24 H24 U24 rfl W24 11 rfl (by decide)
  have N24 := Fr.snoc X24 N22 o1
  have Z24 : n0 ≤ h24.size := (Nat.le_trans Z22 (Nat.le_of_eq W24.size.symm))
  refine own_step (T' := T24) (g' := (mkF m 68 #[.val (.int p0), .val (.int p1), .unset, .unset, .unset] [(.ref a1)])) st24 ?_
  refine own_step (T' := T24) (g' := (mkF m 69 #[.val (.int p0), .val (.int p1), .unset, .unset, .unset] [(.ref a1), (.ref a1)])) (fun t k => XS.dup X24.here hx rfl (hb hby at_68) rfl rfl k) ?_
  refine own_step (T' := T24) (g' := (mkF m 71 #[.val (.int p0), .val (.int p1), .unset, .unset, .unset] [(.int (12 : Int32)), (.ref a1), (.ref a1)])) (fun t k => XS.bipush X24.here hx rfl (hb hby at_69) k) ?_
  refine own_step (T' := T24) (g' := (mkF m 73 #[.val (.int p0), .val (.int p1), .unset, .unset, .unset] [(.int (1114111 : Int32)), (.int (12 : Int32)), (.ref a1), (.ref a1)])) (X24.ldcInt hx hown (mvT hZ (hw _ (List.mem_of_getElem? (i := 8) rfl))) (g := (mkF m 71 #[.val (.int p0), .val (.int p1), .unset, .unset, .unset] [(.int (12 : Int32)), (.ref a1), (.ref a1)])) rfl (hb hby at_71)) ?_
  obtain ⟨c26, Ar26, q26, S26, M26, H26, U26⟩ := id g25
  obtain ⟨T26, h26, X26, e26, W26, st26⟩ := stI X24 hx hZ e24 Ar26 (j := (12 : Int32)) (inb_of S26 ⟨by decide, by decide⟩) (g := (mkF m 73 #[.val (.int p0), .val (.int p1), .unset, .unset, .unset] [(.int (1114111 : Int32)), (.int (12 : Int32)), (.ref a1), (.ref a1)])) rfl rfl (hb hby at_73)
  have g27 : Arv Z h26 a1 k1 .int (16 : Int32) [(.int (0 : Int32)), (.int (0 : Int32)), (.int (9 : Int32)), (.int (13 : Int32)), (.int (32 : Int32)), (.int (55295 : Int32)), (.int (55296 : Int32)), (.int (57343 : Int32)), (.int (57344 : Int32)), (.int (65533 : Int32)), (.int (65534 : Int32)), (.int (65536 : Int32)), (.int (1114111 : Int32)), (.int (0 : Int32)), (.int (0 : Int32)), (.int (0 : Int32))] (.int (0 : Int32)) := Arv.set Ar26 q26 S26 M26 H26 U26 rfl W26 12 rfl (by decide)
  have N26 := Fr.snoc X26 N24 o1
  have Z26 : n0 ≤ h26.size := (Nat.le_trans Z24 (Nat.le_of_eq W26.size.symm))
  refine own_step (T' := T26) (g' := (mkF m 74 #[.val (.int p0), .val (.int p1), .unset, .unset, .unset] [(.ref a1)])) st26 ?_
  refine own_step (T' := T26) (g' := (mkF m 75 #[.val (.int p0), .val (.int p1), .unset, .unset, .unset] [(.ref a1), (.ref a1)])) (fun t k => XS.dup X26.here hx rfl (hb hby at_74) rfl rfl k) ?_
  refine own_step (T' := T26) (g' := (mkF m 77 #[.val (.int p0), .val (.int p1), .unset, .unset, .unset] [(.int (13 : Int32)), (.ref a1), (.ref a1)])) (fun t k => XS.bipush X26.here hx rfl (hb hby at_75) k) ?_
  refine own_step (T' := T26) (g' := (mkF m 79 #[.val (.int p0), .val (.int p1), .unset, .unset, .unset] [(.int (1114112 : Int32)), (.int (13 : Int32)), (.ref a1), (.ref a1)])) (X26.ldcInt hx hown (mvT hZ (hw _ (List.mem_of_getElem? (i := 9) rfl))) (g := (mkF m 77 #[.val (.int p0), .val (.int p1), .unset, .unset, .unset] [(.int (13 : Int32)), (.ref a1), (.ref a1)])) rfl (hb hby at_77)) ?_
  obtain ⟨c28, Ar28, q28, S28, M28, H28, U28⟩ := id g27
  obtain ⟨T28, h28, X28, e28, W28, st28⟩ := stI X26 hx hZ e26 Ar28 (j := (13 : Int32)) (inb_of S28 ⟨by decide, by decide⟩) (g := (mkF m 79 #[.val (.int p0), .val (.int p1), .unset, .unset, .unset] [(.int (1114112 : Int32)), (.int (13 : Int32)), (.ref a1), (.ref a1)])) rfl rfl (hb hby at_79)
  have g29 : Arv Z h28 a1 k1 .int (16 : Int32) [(.int (0 : Int32)), (.int (0 : Int32)), (.int (9 : Int32)), (.int (13 : Int32)), (.int (32 : Int32)), (.int (55295 : Int32)), (.int (55296 : Int32)), (.int (57343 : Int32)), (.int (57344 : Int32)), (.int (65533 : Int32)), (.int (65534 : Int32)), (.int (65536 : Int32)), (.int (1114111 : Int32)), (.int (1114112 : Int32)), (.int (0 : Int32)), (.int (0 : Int32))] (.int (0 : Int32)) := Arv.set Ar28 q28 S28 M28 H28 U28 rfl W28 13 rfl (by decide)
  have N28 := Fr.snoc X28 N26 o1
  have Z28 : n0 ≤ h28.size := (Nat.le_trans Z26 (Nat.le_of_eq W28.size.symm))
  refine own_step (T' := T28) (g' := (mkF m 80 #[.val (.int p0), .val (.int p1), .unset, .unset, .unset] [(.ref a1)])) st28 ?_
  refine own_step (T' := T28) (g' := (mkF m 81 #[.val (.int p0), .val (.int p1), .unset, .unset, .unset] [(.ref a1), (.ref a1)])) (fun t k => XS.dup X28.here hx rfl (hb hby at_80) rfl rfl k) ?_
  refine own_step (T' := T28) (g' := (mkF m 83 #[.val (.int p0), .val (.int p1), .unset, .unset, .unset] [(.int (14 : Int32)), (.ref a1), (.ref a1)])) (fun t k => XS.bipush X28.here hx rfl (hb hby at_81) k) ?_
  refine own_step (T' := T28) (g' := (mkF m 85 #[.val (.int p0), .val (.int p1), .unset, .unset, .unset] [(.int (2147483645 : Int32)), (.int (14 : Int32)), (.ref a1), (.ref a1)])) (X28.ldcInt hx hown (mvT hZ (hw _ (List.mem_of_getElem? (i := 10) rfl))) (g := (mkF m 83 #[.val (.int p0), .val (.int p1), .unset, .unset, .unset] [(.int (14 : Int32)), (.ref a1), (.ref a1)])) rfl (hb hby at_83)) ?_
  obtain ⟨c30, Ar30, q30, S30, M30, H30, U30⟩ := id g29
  obtain ⟨T30, h30, X30, e30, W30, st30⟩ := stI X28 hx hZ e28 Ar30 (j := (14 : Int32)) (inb_of S30 ⟨by decide, by decide⟩) (g := (mkF m 85 #[.val (.int p0), .val (.int p1), .unset, .unset, .unset] [(.int (2147483645 : Int32)), (.int (14 : Int32)), (.ref a1), (.ref a1)])) rfl rfl (hb hby at_85)
  have g31 : Arv Z h30 a1 k1 .int (16 : Int32) [(.int (0 : Int32)), (.int (0 : Int32)), (.int (9 : Int32)), (.int (13 : Int32)), (.int (32 : Int32)), (.int (55295 : Int32)), (.int (55296 : Int32)), (.int (57343 : Int32)), (.int (57344 : Int32)), (.int (65533 : Int32)), (.int (65534 : Int32)), (.int (65536 : Int32)), (.int (1114111 : Int32)), (.int (1114112 : Int32)), (.int (2147483645 : Int32)), (.int (0 : Int32))] (.int (0 : Int32)) := Arv.set Ar30 q30 S30 M30 H30 U30 rfl W30 14 rfl (by decide)
  have N30 := Fr.snoc X30 N28 o1
  have Z30 : n0 ≤ h30.size := (Nat.le_trans Z28 (Nat.le_of_eq W30.size.symm))
  refine own_step (T' := T30) (g' := (mkF m 86 #[.val (.int p0), .val (.int p1), .unset, .unset, .unset] [(.ref a1)])) st30 ?_
  refine own_step (T' := T30) (g' := (mkF m 87 #[.val (.int p0), .val (.int p1), .unset, .unset, .unset] [(.ref a1), (.ref a1)])) (fun t k => XS.dup X30.here hx rfl (hb hby at_86) rfl rfl k) ?_
  refine own_step (T' := T30) (g' := (mkF m 89 #[.val (.int p0), .val (.int p1), .unset, .unset, .unset] [(.int (15 : Int32)), (.ref a1), (.ref a1)])) (fun t k => XS.bipush X30.here hx rfl (hb hby at_87) k) ?_
  refine own_step (T' := T30) (g' := (mkF m 91 #[.val (.int p0), .val (.int p1), .unset, .unset, .unset] [(.int ((-2147483647) : Int32)), (.int (15 : Int32)), (.ref a1), (.ref a1)])) (X30.ldcInt hx hown (mvT hZ (hw _ (List.mem_of_getElem? (i := 11) rfl))) (g := (mkF m 89 #[.val (.int p0), .val (.int p1), .unset, .unset, .unset] [(.int (15 : Int32)), (.ref a1), (.ref a1)])) rfl (hb hby at_89)) ?_
  obtain ⟨c32, Ar32, q32, S32, M32, H32, U32⟩ := id g31
  obtain ⟨T32, h32, X32, e32, W32, st32⟩ := stI X30 hx hZ e30 Ar32 (j := (15 : Int32)) (inb_of S32 ⟨by decide, by decide⟩) (g := (mkF m 91 #[.val (.int p0), .val (.int p1), .unset, .unset, .unset] [(.int ((-2147483647) : Int32)), (.int (15 : Int32)), (.ref a1), (.ref a1)])) rfl rfl (hb hby at_91)
  have g33 : Arv Z h32 a1 k1 .int (16 : Int32) [(.int (0 : Int32)), (.int (0 : Int32)), (.int (9 : Int32)), (.int (13 : Int32)), (.int (32 : Int32)), (.int (55295 : Int32)), (.int (55296 : Int32)), (.int (57343 : Int32)), (.int (57344 : Int32)), (.int (65533 : Int32)), (.int (65534 : Int32)), (.int (65536 : Int32)), (.int (1114111 : Int32)), (.int (1114112 : Int32)), (.int (2147483645 : Int32)), (.int ((-2147483647) : Int32))] (.int (0 : Int32)) := Arv.set Ar32 q32 S32 M32 H32 U32 rfl W32 15 rfl (by decide)
  have N32 := Fr.snoc X32 N30 o1
  have Z32 : n0 ≤ h32.size := (Nat.le_trans Z30 (Nat.le_of_eq W32.size.symm))
  refine own_step (T' := T32) (g' := (mkF m 92 #[.val (.int p0), .val (.int p1), .unset, .unset, .unset] [(.ref a1)])) st32 ?_
  refine own_step (T' := T32) (g' := (mkF m 93 #[.val (.int p0), .val (.int p1), .val (.ref a1), .unset, .unset] [])) (fun t k => XS.astoreN X32.here hx rfl (hb hby at_92) rfl rfl (l' := #[.val (.int p0), .val (.int p1), .val (.ref a1), .unset, .unset]) rfl k) ?_
  refine own_step (T' := T32) (g' := (mkF m 94 #[.val (.int p0), .val (.int p1), .val (.ref a1), .unset, .unset] [(.int p1)])) (fun t k => XS.iloadN X32.here hx rfl (hb hby at_93) rfl k) ?_
  refine own_step (T' := T32) (g' := (mkF m 96 #[.val (.int p0), .val (.int p1), .val (.ref a1), .unset, .unset] [(.int (15 : Int32)), (.int p1)])) (fun t k => XS.bipush X32.here hx rfl (hb hby at_94) k) ?_
  refine own_step (T' := T32) (g' := (mkF m 97 #[.val (.int p0), .val (.int p1), .val (.ref a1), .unset, .unset] [(.int (p1 &&& (15 : Int32)))])) (fun t k => XS.iand X32.here hx rfl (hb hby at_96) rfl k) ?_
  generalize hd_sel : (p1 &&& (15 : Int32)) = sel
  refine own_step (T' := T32) (g' := (mkF m 98 #[.val (.int p0), .val (.int p1), .val (.ref a1), .val (.int sel), .unset] [])) (fun t k => XS.istoreN X32.here hx rfl (hb hby at_97) rfl (l' := #[.val (.int p0), .val (.int p1), .val (.ref a1), .val (.int sel), .unset]) rfl k) ?_
  refine own_step (T' := T32) (g' := (mkF m 99 #[.val (.int p0), .val (.int p1), .val (.ref a1), .val (.int sel), .unset] [(.int sel)])) (fun t k => XS.iloadN X32.here hx rfl (hb hby at_98) rfl k) ?_
  have hsel := own_sel p1
  rw [hd_sel] at hsel
  obtain ⟨zz, hzz⟩ : ∃ z, ([(.int (0 : Int32)), (.int (0 : Int32)), (.int (9 : Int32)), (.int (13 : Int32)), (.int (32 : Int32)), (.int (55295 : Int32)), (.int (55296 : Int32)), (.int (57343 : Int32)), (.int (57344 : Int32)), (.int (65533 : Int32)), (.int (65534 : Int32)), (.int (65536 : Int32)), (.int (1114111 : Int32)), (.int (1114112 : Int32)), (.int (2147483645 : Int32)), (.int ((-2147483647) : Int32))] : List Value).getD sel.toNatClampNeg (.int (0 : Int32)) = .int z := by
    obtain ⟨cz, Az, qz, Sz, Mz, Hz, Uz⟩ := id g33
    exact own_fitI (Uz _ (Nat.lt_of_not_le fun y => inb_of Sz hsel (Or.inr y)))
  have j119 : ∀ (cc : Int32), own_Go p e below s (Q_law n0) 16 128 T32 (mkF m 119 #[.val (.int p0), .val (.int p1), .val (.ref a1), .val (.int sel), .val (.int cc)] []) := by
    intro cc
    refine own_step (T' := T32) (g' := (mkF m 121 #[.val (.int p0), .val (.int p1), .val (.ref a1), .val (.int sel), .val (.int cc)] [(.int cc)])) (fun t k => XS.iload X32.here hx rfl (hb hby at_119) rfl k) ?_
    obtain ⟨_, _, ⟨T35, L35, k35, n35⟩, -, X35, ⟨Lc35, hQ35, l35, y35, z35⟩, st35⟩ := Jvm.LawKit.callS X32 hx (y := (⟨"com/example/charter_for_federations/charterforfederations/xmlrpc/ResponseWriter", "canCarry", "(I)Z"⟩ : MethodName)) hown (mvT hZ (hw _ (List.mem_of_getElem? (i := 12) rfl))) (mvT hZ (hw _ (List.mem_of_getElem? (i := 13) rfl))) (mvT hZ (hw _ (List.mem_of_getElem? (i := 14) rfl))) (mvT hZ (hw _ (List.mem_of_getElem? (i := 15) rfl))) (by decide) (backOf (W := 0) (rm_cc l Z a0 hw [] cc h32 n0 Z32 ) hZ (hw _ (List.mem_of_getElem? (i := 15) rfl)) (hw _ (List.mem_of_getElem? (i := 14) rfl)) (by decide) (by decide)) (g := (mkF m 121 #[.val (.int p0), .val (.int p1), .val (.ref a1), .val (.int sel), .val (.int cc)] [(.int cc)])) rfl (by rw [hml]; rfl) (argsL := [(.int cc)]) (rest := []) (lenOf pd_0 rfl) rfl (by show 2 * 0 + _ ≤ _; exact Nat.le_of_eq rfl) (hb hby at_121) (fun _ _ => ⟨rfl, e32, (by decide : 1 + 0 ≤ _), (by decide : 16 + 0 ≤ _)⟩)
    dsimp only [Pt.U, Pt.locs, Pt.cells, Pt.slots] at X35 l35 y35 z35 st35 hQ35
    subst l35 y35 z35
    obtain ⟨rfl, Nq35, eq34⟩ := hQ35
    have N35 := Fr.app N32 Nq35
    refine own_step (T' := T35) (g' := (mkF m 124 #[.val (.int p0), .val (.int p1), .val (.ref a1), .val (.int sel), .val (.int cc)] [(.int (own_cc cc))])) st35 ?_
    refine own_step (T' := T35) (g' := (mkF m 126 #[.val (.int p0), .val (.int p1), .val (.ref a1), .val (.int sel), .val (.int cc)] [(.int cc), (.int (own_cc cc))])) (fun t k => XS.iload X35.here hx rfl (hb hby at_124) rfl k) ?_
    obtain ⟨_, _, ⟨T37, L37, k37, n37⟩, -, X37, ⟨Lc37, hQ37, l37, y37, z37⟩, st37⟩ := Jvm.LawKit.callS X35 hx (y := (⟨"com/example/charter_for_federations/charterforfederations/xmlrpc/ResponseWriterCanCarryPinLaw", "expected", "(I)Z"⟩ : MethodName)) hown (mvT hZ (hw _ (List.mem_of_getElem? (i := 18) rfl))) (mvT hZ (hw _ (List.mem_of_getElem? (i := 19) rfl))) (mvT hZ (hw _ (List.mem_of_getElem? (i := 20) rfl))) (mvT hZ (hw _ (List.mem_of_getElem? (i := 21) rfl))) (by decide) (backOf (W := 1) (rm_ex l Z a0 hw [] cc h32 n0 Z32 ) hZ (hw _ (List.mem_of_getElem? (i := 21) rfl)) (hw _ (List.mem_of_getElem? (i := 20) rfl)) (by decide) (by decide)) (g := (mkF m 126 #[.val (.int p0), .val (.int p1), .val (.ref a1), .val (.int sel), .val (.int cc)] [(.int cc), (.int (own_cc cc))])) rfl (by rw [hml]; rfl) (argsL := [(.int cc)]) (rest := [(.int (own_cc cc))]) (lenOf pd_0 rfl) rfl (by show 2 * 0 + _ ≤ _; exact Nat.le_of_eq rfl) (hb hby at_126) (fun _ _ => ⟨rfl, eq34, (by decide : 1 + 0 ≤ _), (by decide : 16 + 0 ≤ _)⟩)
    dsimp only [Pt.U, Pt.locs, Pt.cells, Pt.slots] at X37 l37 y37 z37 st37 hQ37
    subst l37 y37 z37
    obtain ⟨rfl, Nq37, eq36⟩ := hQ37
    have N37 := Fr.app N35 Nq37
    refine own_step (T' := T37) (g' := (mkF m 129 #[.val (.int p0), .val (.int p1), .val (.ref a1), .val (.int sel), .val (.int cc)] [(.int (own_ex cc)), (.int (own_cc cc))])) st37 ?_
    refine own_step (T' := T37) (g' := (mkF m 132 #[.val (.int p0), .val (.int p1), .val (.ref a1), .val (.int sel), .val (.int cc)] [])) (fun t k => XS.icmpNo X37.here hx rfl (hb hby at_129) rfl (teq (own_cc_ex _)).2 k) ?_
    refine own_step (T' := T37) (g' := (mkF m 133 #[.val (.int p0), .val (.int p1), .val (.ref a1), .val (.int sel), .val (.int cc)] [(.int (1 : Int32))])) (fun t k => XS.iconst X37.here hx rfl (hb hby at_132) k) ?_
    refine own_step (T' := T37) (g' := (mkF m 137 #[.val (.int p0), .val (.int p1), .val (.ref a1), .val (.int sel), .val (.int cc)] [(.int (1 : Int32))])) (fun t k => XS.goto X37.here hx rfl (pc0 := 133) (pc' := 137) rfl (hb hby at_133) (by decide) (by decide) k) ?_
    refine own_rN X37 hx hlk Bd.returns (by simp) (hb hby at_137) ?_ (by decide) (by decide)
    rw [eq36]
    exact ⟨rfl, N37⟩
  by_cases c99 : sel = (0 : Int32)
  · refine own_step (T' := T32) (g' := (mkF m 102 #[.val (.int p0), .val (.int p1), .val (.ref a1), .val (.int sel), .unset] [])) (fun t k => XS.ifNo X32.here hx rfl (hb hby at_99) rfl ((if0 _ _).trans (teq c99).2) k) ?_
    refine own_step (T' := T32) (g' := (mkF m 103 #[.val (.int p0), .val (.int p1), .val (.ref a1), .val (.int sel), .unset] [(.int p0)])) (fun t k => XS.iloadN X32.here hx rfl (hb hby at_102) rfl k) ?_
    refine own_step (T' := T32) (g' := (mkF m 105 #[.val (.int p0), .val (.int p1), .val (.ref a1), .val (.int sel), .val (.int p0)] [])) (fun t k => XS.istore X32.here hx rfl (hb hby at_103) rfl (l' := #[.val (.int p0), .val (.int p1), .val (.ref a1), .val (.int sel), .val (.int p0)]) rfl k) ?_
    refine own_step (T' := T32) (g' := (mkF m 119 #[.val (.int p0), .val (.int p1), .val (.ref a1), .val (.int sel), .val (.int p0)] [])) (fun t k => XS.goto X32.here hx rfl (pc0 := 105) (pc' := 119) rfl (hb hby at_105) (by decide) (by decide) k) ?_
    exact j119 _
  · refine own_step (T' := T32) (g' := (mkF m 108 #[.val (.int p0), .val (.int p1), .val (.ref a1), .val (.int sel), .unset] [])) (fun t k => XS.ifYes X32.here hx rfl (pc0 := 99) (pc' := 108) rfl (hb hby at_99) rfl ((if0 _ _).trans (feq c99).2) (by decide) (by decide) k) ?_
    refine own_step (T' := T32) (g' := (mkF m 109 #[.val (.int p0), .val (.int p1), .val (.ref a1), .val (.int sel), .unset] [(.ref a1)])) (fun t k => XS.aloadN X32.here hx rfl (hb hby at_108) rfl rfl k) ?_
    refine own_step (T' := T32) (g' := (mkF m 110 #[.val (.int p0), .val (.int p1), .val (.ref a1), .val (.int sel), .unset] [(.int sel), (.ref a1)])) (fun t k => XS.iloadN X32.here hx rfl (hb hby at_109) rfl k) ?_
    obtain ⟨c38, Ar38, q38, S38, M38, H38, U38⟩ := id g33
    have hi38 := inb_of S38 (j := sel) hsel
    have hat38 := H38.at hi38 (v := (.int zz)) hzz
    refine own_step (T' := T32) (g' := (mkF m 111 #[.val (.int p0), .val (.int p1), .val (.ref a1), .val (.int sel), .unset] [(.int zz)])) (fun t k => X32.iaload hx (j := sel) (v := (.int zz)) (by rw [e32]; exact Ar38.1) (State.isArrayOf_alike hZ.alike Ar38.2.1) Ar38.2.2 hi38 hat38 (g := (mkF m 110 #[.val (.int p0), .val (.int p1), .val (.ref a1), .val (.int sel), .unset] [(.int sel), (.ref a1)])) rfl rfl (hb hby at_110) t k) ?_
    refine own_step (T' := T32) (g' := (mkF m 112 #[.val (.int p0), .val (.int p1), .val (.ref a1), .val (.int sel), .unset] [(.int p0), (.int zz)])) (fun t k => XS.iloadN X32.here hx rfl (hb hby at_111) rfl k) ?_
    refine own_step (T' := T32) (g' := (mkF m 113 #[.val (.int p0), .val (.int p1), .val (.ref a1), .val (.int sel), .unset] [(.int (3 : Int32)), (.int p0), (.int zz)])) (fun t k => XS.iconst X32.here hx rfl (hb hby at_112) k) ?_
    refine own_step (T' := T32) (g' := (mkF m 114 #[.val (.int p0), .val (.int p1), .val (.ref a1), .val (.int sel), .unset] [(.int (p0 &&& (3 : Int32))), (.int zz)])) (fun t k => XS.iand X32.here hx rfl (hb hby at_113) rfl k) ?_
    refine own_step (T' := T32) (g' := (mkF m 115 #[.val (.int p0), .val (.int p1), .val (.ref a1), .val (.int sel), .unset] [(.int (1 : Int32)), (.int (p0 &&& (3 : Int32))), (.int zz)])) (fun t k => XS.iconst X32.here hx rfl (hb hby at_114) k) ?_
    refine own_step (T' := T32) (g' := (mkF m 116 #[.val (.int p0), .val (.int p1), .val (.ref a1), .val (.int sel), .unset] [(.int ((p0 &&& (3 : Int32)) - (1 : Int32))), (.int zz)])) (fun t k => XS.isub X32.here hx rfl (hb hby at_115) rfl k) ?_
    refine own_step (T' := T32) (g' := (mkF m 117 #[.val (.int p0), .val (.int p1), .val (.ref a1), .val (.int sel), .unset] [(.int (zz + ((p0 &&& (3 : Int32)) - (1 : Int32))))])) (fun t k => XS.iadd X32.here hx rfl (hb hby at_116) rfl k) ?_
    refine own_step (T' := T32) (g' := (mkF m 119 #[.val (.int p0), .val (.int p1), .val (.ref a1), .val (.int sel), .val (.int (zz + ((p0 &&& (3 : Int32)) - (1 : Int32))))] [])) (fun t k => XS.istore X32.here hx rfl (hb hby at_117) rfl (l' := #[.val (.int p0), .val (.int p1), .val (.ref a1), .val (.int sel), .val (.int (zz + ((p0 &&& (3 : Int32)) - (1 : Int32))))]) rfl k) ?_
    exact j119 _
set_option maxRecDepth 65536 in
set_option maxHeartbeats 40000000 in
theorem comes_1 {Post : Tables → Env → Array Value → State → Outcome → State → Prop} (hpost : ∀ tb e args s v u, (limb_1_1.after args s (.returned v) u = true ∧ limb_1_2.after args s (.returned v) u = true ∧ True) → FrameEnd s (.returned v) u (Jvm.fieldLocs frame_1_writes args s ++ Jvm.arrayLocs frame_1_arrays args s ++ Jvm.staticLocs frame_1_statics s) 16 128 → Post tb e args s (.returned v) u) :
    ArmFor flags0 classFile x code maxLocals ret World_1 tables_1 room_1 Calls_1 rest_1 Pre_1 Post := by
  intro l hfl _ _ p e ha hc hk s m args below hf hA hF happ hP
  obtain ⟨hcalls, hrest, hpre⟩ := hP
  obtain ⟨-, -, -, hnamed, -, -, -, hat⟩ := (Spec.applies_iff hf).mp happ
  obtain ⟨hg, hn⟩ := and_e (Cond.before_iff.mp (show (Jvm.Cond.and given_1 narrow_1).before args s = true from hpre))
  obtain ⟨hc0, hg0⟩ := and_e hg
  obtain ⟨hc1, hg1⟩ := and_e hg0
  obtain ⟨w0, w1, rfl⟩ : ∃ w0 w1 : Value, args = #[w0, w1] := by
    have hs : args.size = 2 := by simpa [Cond.value, given_1] using hc0
    obtain ⟨L⟩ := args
    match L, hs with
    | [w0, w1], _ => exact ⟨w0, w1, rfl⟩
  have hw := fun d (hd : d ∈ tables_1) => atoms_spec (ws := Jvm.Cond.code x code maxLocals ret :: tables_1) hat d (List.mem_cons_of_mem _ hd)
  have hfit : Fit s := fun {y c} hc i hi => by
    obtain ⟨ha, rfl⟩ := Array.getElem?_eq_some_iff.mp hc
    have q := List.all_eq_true.mp ((Array.all_eq_true_iff_forall_mem.mp hF) _ (Array.getElem_mem ha)) i (List.mem_range.mpr hi)
    simpa [Array.getElem?_eq_getElem hi] using q
  obtain ⟨i0, ev0⟩ := is_v hc1
  obtain rfl : w0 = (.int i0) := Option.some.inj ev0
  obtain ⟨i1, ev1⟩ := is_v hg1
  obtain rfl : w1 = (.int i1) := Option.some.inj ev1

  obtain ⟨n, o, h1, h2, h3, _, L, rfl, ⟨rfl, N⟩, hq⟩ := rm_law l s _ hw tables_1 i0 i1  s.heap s.heap.size (Nat.le_refl _)  p e ha hc hk s m _ below hf ((Spec.applies_iff_loose hf).mp happ).1 ⟨rfl, State.Warmed39.refl s, rfl⟩ trivial
  refine ⟨n, _, h1, h2, h3, hpost _ _ _ _ _ _ ⟨Cond.after_iff.mpr rfl, Cond.after_iff.mpr (eq_i res_at (Term.int_eval (1)) rfl), trivial⟩ ⟨hq.1, hq.2.1, (hq.2.2.sift fun y hy => Or.inr (N y hy)).mono (by decide) (by decide)⟩⟩
theorem main_1_1 : Claimed_1_1 := comes_1 fun _ _ _ _ _ _ h hF => ⟨h.1, hF⟩
theorem main_1_2 : Claimed_1_2 := comes_1 fun _ _ _ _ _ _ h hF => ⟨h.2.1, hF⟩

end Jvm.Pilot.@@N@@
namespace Jvm.Pilot.@@N@@
open Jvm Jvm.ClassFile Sem Op Lib Jvm.Free Jvm.Stand Jvm.Pilot.@@N@@.Jvm.D
/-! MADE BY PROGRAM (witnessworld.py) out of the Statement's table words and the real class files: 9 classes; the members and pool entries that the words name. The judged class is class 1, her method 2. -/
namespace start1
open Jvm.ClassFile
def u (s : String) : CpInfo := .utf8 (stringToUtf16 s)
/-- a pool by its gaps: so many unusable entries, then the entry; so many at the end -/
def gap : Nat → List CpInfo → List CpInfo
  | 0, r => r
  | n + 1, r => .unusable :: gap n r
def poolList (es : List (Nat × CpInfo)) (last : Nat) : List CpInfo := es.foldr (fun e r => gap e.1 (e.2 :: r)) (gap last [])
def pool (es : List (Nat × CpInfo)) (last : Nat) : Array CpInfo := ⟨poolList es last⟩
def fileOf (pool : Array CpInfo) (this : Nat) (attrs : Array Attribute := #[]) (ms : Array MethodInfo := #[]) (fl : Nat := 33) (sup : Nat := 0) (ifs : Array Nat := #[]) (fds : Array FieldInfo := #[]) : ClassFile where
  minorVersion := 0
  majorVersion := 65
  constantPool := pool
  accessFlags := fl
  thisClass := this
  superClass := sup
  interfaces := ifs
  fields := fds
  methods := ms
  attributes := attrs
def plain (name : String) (sup : Option ClassId) : Class where
  name := name
  kind := .ordinary
  loader := none
  accessFlags := 33
  super := sup
  interfaces := #[]
  cf := none
  fields := #[]
  methods := #[]
  instanceTypes := #[]
  staticTypes := #[]
  resolved := #[]
  callSites := []
  init := .initialized
  statics := none
  mirror := none

def pool0 : Array CpInfo := pool [(5, u "<init>"), (0, u "()V"), (1, .class_ 10), (1, u "java/lang/Object")] 113

def k0m0 : Method := { name := "<init>", desc := "()V", sig := { parameters := [], returnType := none }, accessFlags := 1, code := none }
/-- java/lang/Object -/
def k0 : Class := { plain "java/lang/Object" none with
  accessFlags := 33
  interfaces := #[]
  cf := some (fileOf pool0 8 #[] #[{ accessFlags := 1, nameIndex := 5, descriptorIndex := 6, attributes := #[] }] 33 0 #[] #[])
  fields := #[]
  methods := #[k0m0]
  instanceTypes := #[]
  staticTypes := #[]
  resolved := Array.replicate 124 none
  statics := none }

def pool1 : Array CpInfo := pool [(2, .class_ 4), (1, u "java/lang/Object"), (0, u "<init>"), (0, u "()V"), (0, .integer 1114111), (0, .integer 55296), (0, .integer 57343), (0, .integer 65534), (0, .integer 65535), (0, .integer 55295), (0, .integer 57344), (0, .integer 65533), (0, .integer 65536), (0, .integer 1114112), (0, .integer 2147483645), (0, .integer 2147483649), (0, .methodref 20 21), (0, .class_ 22), (0, .nameAndType 23 24), (0, u "com/example/charter_for_federations/charterforfederations/xmlrpc/ResponseWriter"), (0, u "canCarry"), (0, u "(I)Z"), (0, .methodref 26 27), (0, .class_ 28), (0, .nameAndType 29 24), (0, u "com/example/charter_for_federations/charterforfederations/xmlrpc/ResponseWriterCanCarryPinLaw"), (0, u "expected"), (3, u "law"), (0, u "(II)Z")] 4

def k1m0 : Method := { name := "<init>", desc := "()V", sig := { parameters := [], returnType := none }, accessFlags := 2, code := none }
def k1c1 : Code := { maxStack := 2, maxLocals := 5, code := method_2_code, exceptionTable := #[], attributes := #[] }
def k1m1 : Method := { name := "expected", desc := "(I)Z", sig := { parameters := [.int], returnType := some .boolean }, accessFlags := 10, code := some k1c1 }
def k1c2 : Code := { maxStack := 4, maxLocals := 5, code := code, exceptionTable := #[], attributes := #[] }
def k1m2 : Method := { name := "law", desc := "(II)Z", sig := { parameters := [.int, .int], returnType := some .boolean }, accessFlags := 9, code := some k1c2 }
/-- com/example/charter_for_federations/charterforfederations/xmlrpc/ResponseWriterCanCarryPinLaw -/
def k1 : Class := { plain "com/example/charter_for_federations/charterforfederations/xmlrpc/ResponseWriterCanCarryPinLaw" (some 0) with
  accessFlags := 49
  interfaces := #[]
  cf := some (fileOf pool1 26 #[] #[{ accessFlags := 2, nameIndex := 5, descriptorIndex := 6, attributes := #[] }, { accessFlags := 10, nameIndex := 29, descriptorIndex := 24, attributes := #[] }, { accessFlags := 9, nameIndex := 33, descriptorIndex := 34, attributes := #[] }] 49 2 #[] #[])
  fields := #[]
  methods := #[k1m0, k1m1, k1m2]
  instanceTypes := #[]
  staticTypes := #[]
  resolved := Array.replicate 39 none
  statics := none }

def pool2 : Array CpInfo := pool [(2, .class_ 4), (1, u "java/lang/Object"), (0, u "<init>"), (0, u "()V"), (2, .class_ 10), (0, u "com/example/charter_for_federations/charterforfederations/xmlrpc/ResponseWriter"), (56, .integer 55295), (0, .integer 57344), (0, .integer 65533), (0, .integer 65536), (0, .integer 1114111), (127, u "canCarry"), (0, u "(I)Z"), (15, u "PROLOG"), (0, u "Ljava/lang/String;"), (1, u "ROOM"), (0, u "I")] 26

def k2m0 : Method := { name := "<init>", desc := "()V", sig := { parameters := [], returnType := none }, accessFlags := 2, code := none }
def k2c1 : Code := { maxStack := 2, maxLocals := 1, code := prog_39_method_4_code, exceptionTable := #[], attributes := #[] }
def k2m1 : Method := { name := "canCarry", desc := "(I)Z", sig := { parameters := [.int], returnType := some .boolean }, accessFlags := 9, code := some k2c1 }
/-- com/example/charter_for_federations/charterforfederations/xmlrpc/ResponseWriter -/
def k2 : Class := { plain "com/example/charter_for_federations/charterforfederations/xmlrpc/ResponseWriter" (some 0) with
  accessFlags := 49
  interfaces := #[]
  cf := some (fileOf pool2 9 #[] #[{ accessFlags := 2, nameIndex := 5, descriptorIndex := 6, attributes := #[] }, { accessFlags := 9, nameIndex := 199, descriptorIndex := 200, attributes := #[] }] 49 2 #[] #[{ accessFlags := 26, nameIndex := 216, descriptorIndex := 217, attributes := #[] }, { accessFlags := 26, nameIndex := 219, descriptorIndex := 220, attributes := #[] }])
  fields := #[{ name := "PROLOG", type := (.object "java/lang/String"), accessFlags := 26, slot := 0, constantValue := 0 }, { name := "ROOM", type := .int, accessFlags := 26, slot := 1, constantValue := 0 }]
  methods := #[k2m0, k2m1]
  instanceTypes := #[]
  staticTypes := #[(.object "java/lang/String"), .int]
  resolved := Array.replicate 247 none
  statics := none }

def pool3 : Array CpInfo := pool [(1, u "java/lang/Cloneable"), (0, .class_ 1), (0, u "java/lang/Object"), (0, .class_ 3)] 3

/-- java/lang/Cloneable -/
def k3 : Class := { plain "java/lang/Cloneable" (some 0) with
  accessFlags := 1537
  interfaces := #[]
  cf := some (fileOf pool3 2 #[] #[] 1537 4 #[] #[])
  fields := #[]
  methods := #[]
  instanceTypes := #[]
  staticTypes := #[]
  resolved := Array.replicate 8 none
  statics := none }

def pool4 : Array CpInfo := pool [(1, u "java/io/Serializable"), (0, .class_ 1), (0, u "java/lang/Object"), (0, .class_ 3)] 3

/-- java/io/Serializable -/
def k4 : Class := { plain "java/io/Serializable" (some 0) with
  accessFlags := 1537
  interfaces := #[]
  cf := some (fileOf pool4 2 #[] #[] 1537 4 #[] #[])
  fields := #[]
  methods := #[]
  instanceTypes := #[]
  staticTypes := #[]
  resolved := Array.replicate 8 none
  statics := none }

/-- the primitive byte -/
def k5 : Class := { plain "byte" none with kind := .primitive 'B', accessFlags := 0x411 }
/-- [B -/
def k6 : Class := { plain "[B" (some 0) with kind := .array 5 .byte, interfaces := #[3, 4], accessFlags := 1041 }

/-- the primitive int -/
def k7 : Class := { plain "int" none with kind := .primitive 'I', accessFlags := 0x411 }
/-- [I -/
def k8 : Class := { plain "[I" (some 0) with kind := .array 7 .int, interfaces := #[3, 4], accessFlags := 1041 }

def heap : Heap := #[]
def classes : Array Class := #[k0, k1, k2, k3, k4, k5, k6, k7, k8]
def interned : List (Array UInt16 × Addr) := []
def slotsUsed : Nat := 0
def theMethod : MethodId := ⟨1, 2⟩
def args0 : Array Value := #[.int 5, .int 3]
def aboutOver (below : List Frame) : State where
  vm := { classes := classes, interned := interned.toArray }
  heap := heap
  slotsUsed := slotsUsed
  threads := #[{ frames := .invoking theMethod args0 :: below }]
def below0 : List Frame := [.native { method := ⟨0, 0⟩, args := #[] }]
def about1 : State := aboutOver below0
def p0 : Program := .bare "" "" ""
def e0 : Env := launch0.env 0 0 0
theorem w_frames : about1.frames = Frame.invoking theMethod args0 :: below0 := rfl
set_option maxRecDepth 65536 in
theorem w_args : argsFit about1.vm theMethod args0 = true := by decide +kernel
set_option maxRecDepth 65536 in
theorem w_heap : heapFits about1 = true := by decide +kernel
set_option maxRecDepth 65536 in
theorem w_runnable : about1.curStatus? = some .runnable := by decide +kernel
set_option maxRecDepth 65536 in
theorem w_alone : about1.alone = true := by decide +kernel
set_option maxRecDepth 65536 in
theorem w_named : about1.methodNamed? x = some theMethod := by decide +kernel
set_option maxRecDepth 65536 in
theorem w_hears : about1.hears theMethod below0 = true := by decide +kernel
set_option maxRecDepth 65536 in
theorem w_ripe : about1.ripe theMethod args0 below0 = true := by decide +kernel
theorem w_running : about1.status = .running := rfl
set_option maxRecDepth 65536 in
theorem w_room : about1.hasRoom e0.platform room_1 = true :=
  launch0.hasRoom_least _ room_1 (by decide +kernel) (by decide +kernel) (by decide +kernel) (by decide +kernel) (by decide +kernel) (by decide +kernel)
theorem allAtoms_all (ts : List Jvm.Cond) (a : Array Jvm.Value) (st : Jvm.State) : (allAtoms ts).before a st = ts.all (fun c => c.before a st) := by
  induction ts with
  | nil => rfl
  | cons c t ih =>
    show (Jvm.Cond.and c (allAtoms t)).before a st = _
    rw [Jvm.Cond.before_and, ih, List.all_cons]
def words1 : List Jvm.Cond := Jvm.Cond.code x code maxLocals ret :: tables_1
/-- a 'code' word, met by the world's own term for the bytes: nothing is compared byte by byte -/
theorem code_word {y : MethodName} {bytes : ByteArray} {mx : Nat} {rt : Option FieldType} {a : Array Value} {s : State} {m : MethodId} {meth : Method} {c : Code} (h1 : s.methodNamed? y = some m) (h2 : s.vm.method? m = some meth) (h3 : meth.code = some c) (h4 : c.code = bytes)
    (h5 : (c.maxLocals == mx && c.exceptionTable.isEmpty && decide (c.maxStack ≤ mostOperands) && decide (meth.sig.returnType = rt) && !meth.locks && decide (parseMethodDescriptor y.desc = some meth.sig)) = true) : (Jvm.Cond.code y bytes mx rt).before a s = true := by
  simp only [Bool.and_eq_true, beq_iff_eq, Bool.not_eq_true', decide_eq_true_eq] at h5
  obtain ⟨⟨⟨⟨⟨g1, g2⟩, g3⟩, g4⟩, g5⟩, g6⟩ := h5
  simp [Cond.before, Cond.holds, Cond.value, h1, h2, h3, h4, g1, g2, g3, g4, g5, g6]
def isCode : Jvm.Cond → Bool
  | .code _ _ _ _ => true
  | _ => false
theorem all_split {L : List Jvm.Cond} {P : Jvm.Cond → Bool} (h1 : L.all (fun c => isCode c || P c) = true) (h2 : ∀ c ∈ L.filter isCode, P c = true) : L.all P = true := by
  refine List.all_eq_true.mpr fun c hc => ?_
  have h := List.all_eq_true.mp h1 c hc
  rcases Bool.eq_false_or_eq_true (isCode c) with hi | hi
  · exact h2 c (List.mem_filter.mpr ⟨hc, hi⟩)
  · simpa [hi] using h
set_option maxRecDepth 65536 in
theorem w_c0 : (Jvm.Cond.code x code maxLocals ret).before args0 about1 = true := code_word (m := ⟨1, 2⟩) (meth := k1m2) (c := k1c2) (by decide +kernel) rfl rfl rfl (by decide +kernel)
set_option maxRecDepth 65536 in
theorem w_c1 : (Jvm.Cond.code ({ cls := "com/example/charter_for_federations/charterforfederations/xmlrpc/ResponseWriter", name := "canCarry", desc := "(I)Z" } : Jvm.MethodName) prog_39_method_4_code (1 : Nat) (Option.some Jvm.ClassFile.FieldType.boolean)).before args0 about1 = true := code_word (m := ⟨2, 1⟩) (meth := k2m1) (c := k2c1) (by decide +kernel) rfl rfl rfl (by decide +kernel)
set_option maxRecDepth 65536 in
theorem w_c2 : (Jvm.Cond.code ({ cls := "com/example/charter_for_federations/charterforfederations/xmlrpc/ResponseWriterCanCarryPinLaw", name := "expected", desc := "(I)Z" } : Jvm.MethodName) method_2_code (5 : Nat) (Option.some Jvm.ClassFile.FieldType.boolean)).before args0 about1 = true := code_word (m := ⟨1, 1⟩) (meth := k1m1) (c := k1c1) (by decide +kernel) rfl rfl rfl (by decide +kernel)
def codes1 : List Jvm.Cond := [Jvm.Cond.code x code maxLocals ret, Jvm.Cond.code ({ cls := "com/example/charter_for_federations/charterforfederations/xmlrpc/ResponseWriter", name := "canCarry", desc := "(I)Z" } : Jvm.MethodName) prog_39_method_4_code (1 : Nat) (Option.some Jvm.ClassFile.FieldType.boolean), Jvm.Cond.code ({ cls := "com/example/charter_for_federations/charterforfederations/xmlrpc/ResponseWriterCanCarryPinLaw", name := "expected", desc := "(I)Z" } : Jvm.MethodName) method_2_code (5 : Nat) (Option.some Jvm.ClassFile.FieldType.boolean)]
set_option maxRecDepth 65536 in
theorem codes_eq : words1.filter isCode = codes1 := rfl
theorem w_codes : ∀ c ∈ words1.filter isCode, c.before args0 about1 = true := by
  rw [codes_eq]
  intro c hc
  simp only [codes1, List.mem_cons, List.not_mem_nil, or_false] at hc
  rcases hc with rfl | rfl | rfl
  · exact w_c0
  · exact w_c1
  · exact w_c2
set_option maxRecDepth 65536 in
theorem w_t1 : (words1.take 24).all (fun c => isCode c || c.before args0 about1) = true := by decide +kernel
set_option maxRecDepth 65536 in
theorem w_t2 : (words1.drop 24).all (fun c => isCode c || c.before args0 about1) = true := by decide +kernel
theorem w_tables : (allAtoms (Jvm.Cond.code x code maxLocals ret :: tables_1)).before args0 about1 = true := by
  rw [allAtoms_all]
  show words1.all (fun c => c.before args0 about1) = true
  refine all_split ?_ w_codes
  rw [← List.take_append_drop 24 words1, List.all_append, w_t1, w_t2]
  rfl
set_option maxRecDepth 65536 in
theorem w_case : (Jvm.Cond.and given_1 narrow_1).before args0 about1 = true := by decide +kernel
theorem w_applies : (headSpec (Jvm.Cond.code x code maxLocals ret :: tables_1) room_1).applies x e0.platform about1 = true :=
  (Spec.applies_iff w_frames).mpr ⟨w_running, w_runnable, w_alone, w_named, w_hears, w_ripe, w_room, w_tables⟩
theorem atStart : AtStart classFile x code maxLocals ret World_1 tables_1 room_1 Calls_1 rest_1 Pre_1 launch0 p0 e0 about1 theMethod args0 below0 :=
  ⟨lists_1, trivial, launch0.admits_env _ _ _, launch0.least_env, fairChoices_fair.cas, fairChoices_fair.clock, w_frames, w_args, w_heap, w_applies, trivial, trivial, w_case⟩
end start1
theorem witness_1 : WitnessClaimed_1 := ⟨start1.p0, start1.e0, start1.about1, start1.theMethod, start1.args0, start1.below0, start1.atStart⟩
end Jvm.Pilot.@@N@@
