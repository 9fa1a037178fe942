import JvmDerived
import JvmDerived.Pilot.@@N@@Statement
import JvmDerived.Pilot.@@N@@Code
set_option linter.unusedVariables false
set_option linter.unusedSimpArgs false
namespace Jvm.RoadKit
open Sem ClassFile Op Lib Jvm.Stand Jvm.Free Jvm.LawKit
section New
variable {p : Program} {l : Launch} {e : Env} {R : Room} {s : State} {m : MethodId} {args : Array Value} {below : List Frame} {meth : Method} {c : Code} {T : State} {locs : List Loc} {cells slots : Nat}
theorem retI (X : Stand p l e R s m args below meth c T locs cells slots) (hx : p.tables.exec = Jvm.exec) {pc : Nat} {Ls : Array Slot} {z : Int32} {rest : List Value} (hret : meth.sig.returnType = some .int) (hd : decode c.code pc = .ok (.ireturn, 1)) {fs : List Frame}
    (hl : ∀ (f : JFrame) (acts : List Action), f.method = m → f.locked = none → f.entered = [] → (doReturn e (T.setTop f) acts (some (.int z))).1 = T.setFrames fs) : Steps p.tables e below (T.setTop (mkF m pc Ls (.int z :: rest))) (T.setFrames fs) := by
  have hm' : T.vm.method? m = some meth := X.method'
  have hn : narrow .int (.int z) = .int z := rfl
  show Steps p.tables e below (T.setTop { method := m, pc := pc, locals := Ls, stack := _ :: rest, locked := none }) _
  jvm_step X.here [X.here.top, hx, hd, hm', hret, hn]
  first | (intro acts; rw [hl _ acts rfl rfl rfl]) | rw [hl _ _ rfl rfl rfl]
  exact Steps.refl _
end New
end Jvm.RoadKit
namespace Jvm.Pilot.@@N@@
open Jvm Jvm.ClassFile Sem Op Lib Jvm.Free Jvm.Stand Jvm.LawKit Jvm.RoadKit Bundle Jvm.Pilot.@@N@@.Jvm.D
theorem d1_0 : decode prog_12_method_3_code 0 = .ok (.iload_n 0, 1) := by decide +kernel
theorem d1_1 : decode prog_12_method_3_code 1 = .ok (.iconst 1, 1) := by decide +kernel
theorem d1_2 : decode prog_12_method_3_code 2 = .ok (.if_icmp .lt 13, 3) := by decide +kernel
theorem d1_5 : decode prog_12_method_3_code 5 = .ok (.iload_n 0, 1) := by decide +kernel
theorem d1_6 : decode prog_12_method_3_code 6 = .ok (.bipush 6, 2) := by decide +kernel
theorem d1_8 : decode prog_12_method_3_code 8 = .ok (.if_icmp .gt 7, 3) := by decide +kernel
theorem d1_11 : decode prog_12_method_3_code 11 = .ok (.iconst 1, 1) := by decide +kernel
theorem d1_12 : decode prog_12_method_3_code 12 = .ok (.goto 4, 3) := by decide +kernel
theorem d1_15 : decode prog_12_method_3_code 15 = .ok (.iconst 0, 1) := by decide +kernel
theorem d1_16 : decode prog_12_method_3_code 16 = .ok (.ireturn, 1) := by decide +kernel
theorem pn_face : plainName "com/example/baize/baize/model/Dice" = true := by first | (simp [plainName, overriddenIn]; done) | decide +kernel
theorem ef_face (m : MethodId) (p0 : Int32) : entryFrame m #[(.int p0)] 1 = mkF m 0 #[.val (.int p0)] [] := by first | (simp [entryFrame, mkF, argsToLocals, Value.category]; done) | rfl
def f_face (p0 : Int32) : Int32 := (if p0 < (1 : Int32) then (0 : Int32) else (if (6 : Int32) < p0 then (0 : Int32) else (1 : Int32)))
def Q_face (Z : State) (p0 : Int32) (h0 : Heap) (n0 : Nat) (v : Option Value) (h : Heap) (L : List Loc) : Prop := v = some (.int (f_face p0)) ∧ Fr n0 L ∧ h = h0
set_option maxRecDepth 65536 in
set_option maxHeartbeats 40000000 in
theorem rm_face (l : Launch) (Z : State) (a0 : Array Value) (hw : ∀ d ∈ tables_1, d.before a0 Z = true) (ws : List Jvm.Cond) (p0 : Int32) (h0 : Heap) (n0 : Nat) (Z0 : n0 ≤ h0.size) :
    MetFree l (⟨"com/example/baize/baize/model/Dice", "isFace", "(I)Z"⟩ : MethodName) (head1 (Jvm.Cond.code (⟨"com/example/baize/baize/model/Dice", "isFace", "(I)Z"⟩ : MethodName) prog_12_method_3_code 1 (some .boolean) :: ws) ({ frames := 0, cells := 0, slots := 0, locals := 0 } : Room)) (fun a U => a = #[(.int p0)] ∧ Z.Warmed39 U.vm ∧ U.heap = h0) (fun _ _ _ _ _ => True) (fun _ U o U' => ∃ v L, o = .returned v ∧ Q_face Z p0 h0 n0 v U'.heap L ∧ FrameEnd U o U' L ({ frames := 0, cells := 0, slots := 0, locals := 0 } : Room).cells ({ frames := 0, cells := 0, slots := 0, locals := 0 } : Room).slots) := by
  refine MetFree.of_bodySF (plainFor_of_name pn_face) hisR ?_
  intro p e s m args below meth c s₁ Bd hml0 hP hK
  obtain ⟨rfl, hZ, hh⟩ := hP
  have hx := Bd.exec
  have hby := Bd.bytes
  have hml : c.maxLocals = 1 := hml0
  have hown : s.vm.findClass "com/example/baize/baize/model/Dice" = some m.cls := findClass_of_methodNamed Bd.named
  have hnm := (name_of_methodNamed Bd.named Bd.method).1
  have X0 : Stand p l e ({ frames := 0, cells := 0, slots := 0, locals := 0 } : Room) s m #[(.int p0)] below meth c s₁ [] 0 0 := Stand.of_body Bd
  have e0 : s₁.heap = h0 := by rw [← hh, Bd.state]; rfl
  have N0 := Fr.nil n0
  have pre0 : ∀ t, Steps p.tables e below (s₁.setTop (mkF m 0 #[.val (.int p0)] [])) t → Steps p.tables e below (s₁.setTop (entryFrame m #[(.int p0)] 1)) t := fun t k => castTop (ef_face m p0) k
  obtain ⟨fs, hr, hrun, hended, hW, hsame⟩ := X0.leave (v := some (.int (f_face p0))) (fun h => by rw [Bd.returns] at h; cases h)
  refine ⟨_, _, pre0 _ ?_, hrun, hended, _, _, rfl, ?_, ⟨_, rfl⟩, hW, hsame.mono (by decide) (by decide)⟩
  · show Steps p.tables e below (s₁.setTop (mkF m 0 #[.val (.int p0)] [])) _
    refine XS.iloadN X0.here hx rfl (hb hby d1_0) rfl ?_
    show Steps p.tables e below (s₁.setTop (mkF m 1 #[.val (.int p0)] [(.int p0)])) _
    refine XS.iconst X0.here hx rfl (hb hby d1_1) ?_
    show Steps p.tables e below (s₁.setTop (mkF m 2 #[.val (.int p0)] [(.int (1 : Int32)), (.int p0)])) _
    by_cases hc2_0 : p0 < (1 : Int32)
    · refine XS.icmpYes X0.here hx rfl (pc0 := 2) (pc' := 15) rfl (hb hby d1_2) rfl (tlt hc2_0).1 (by decide) (by decide) ?_
      show Steps p.tables e below (s₁.setTop (mkF m 15 #[.val (.int p0)] [])) _
      refine XS.iconst X0.here hx rfl (hb hby d1_15) ?_
      show Steps p.tables e below (s₁.setTop (mkF m 16 #[.val (.int p0)] [(.int (0 : Int32))])) _
      have hf : (f_face p0) = (0 : Int32) := by unfold f_face; rw [if_pos hc2_0]
      rw [hf] at hr
      exact retN X0 hx (t := .boolean) Bd.returns (by simp) (hb hby d1_16) hr
    · refine XS.icmpNo X0.here hx rfl (hb hby d1_2) rfl (flt hc2_0).1 ?_
      show Steps p.tables e below (s₁.setTop (mkF m 5 #[.val (.int p0)] [])) _
      refine XS.iloadN X0.here hx rfl (hb hby d1_5) rfl ?_
      show Steps p.tables e below (s₁.setTop (mkF m 6 #[.val (.int p0)] [(.int p0)])) _
      refine XS.bipush X0.here hx rfl (hb hby d1_6) ?_
      show Steps p.tables e below (s₁.setTop (mkF m 8 #[.val (.int p0)] [(.int (6 : Int32)), (.int p0)])) _
      by_cases hc8_1 : (6 : Int32) < p0
      · refine XS.icmpYes X0.here hx rfl (pc0 := 8) (pc' := 15) rfl (hb hby d1_8) rfl (tlt hc8_1).2.2.1 (by decide) (by decide) ?_
        show Steps p.tables e below (s₁.setTop (mkF m 15 #[.val (.int p0)] [])) _
        refine XS.iconst X0.here hx rfl (hb hby d1_15) ?_
        show Steps p.tables e below (s₁.setTop (mkF m 16 #[.val (.int p0)] [(.int (0 : Int32))])) _
        have hf : (f_face p0) = (0 : Int32) := by unfold f_face; rw [if_neg hc2_0, if_pos hc8_1]
        rw [hf] at hr
        exact retN X0 hx (t := .boolean) Bd.returns (by simp) (hb hby d1_16) hr
      · refine XS.icmpNo X0.here hx rfl (hb hby d1_8) rfl (flt hc8_1).2.2.1 ?_
        show Steps p.tables e below (s₁.setTop (mkF m 11 #[.val (.int p0)] [])) _
        refine XS.iconst X0.here hx rfl (hb hby d1_11) ?_
        show Steps p.tables e below (s₁.setTop (mkF m 12 #[.val (.int p0)] [(.int (1 : Int32))])) _
        refine XS.goto X0.here hx rfl (pc0 := 12) (pc' := 16) rfl (hb hby d1_12) (by decide) (by decide) ?_
        show Steps p.tables e below (s₁.setTop (mkF m 16 #[.val (.int p0)] [(.int (1 : Int32))])) _
        have hf : (f_face p0) = (1 : Int32) := by unfold f_face; rw [if_neg hc2_0, if_neg hc8_1]
        rw [hf] at hr
        exact retN X0 hx (t := .boolean) Bd.returns (by simp) (hb hby d1_16) hr
  · show Q_face Z p0 h0 n0 _ s₁.heap _
    rw [e0]
    exact ⟨rfl, N0, rfl⟩
theorem d2_0 : decode method_2_code 0 = .ok (.iload_n 0, 1) := by decide +kernel
theorem d2_1 : decode method_2_code 1 = .ok (.iconst 1, 1) := by decide +kernel
theorem d2_2 : decode method_2_code 2 = .ok (.if_icmp .eq 29, 3) := by decide +kernel
theorem d2_5 : decode method_2_code 5 = .ok (.iload_n 0, 1) := by decide +kernel
theorem d2_6 : decode method_2_code 6 = .ok (.iconst 2, 1) := by decide +kernel
theorem d2_7 : decode method_2_code 7 = .ok (.if_icmp .eq 24, 3) := by decide +kernel
theorem d2_10 : decode method_2_code 10 = .ok (.iload_n 0, 1) := by decide +kernel
theorem d2_11 : decode method_2_code 11 = .ok (.iconst 3, 1) := by decide +kernel
theorem d2_12 : decode method_2_code 12 = .ok (.if_icmp .eq 19, 3) := by decide +kernel
theorem d2_15 : decode method_2_code 15 = .ok (.iload_n 0, 1) := by decide +kernel
theorem d2_16 : decode method_2_code 16 = .ok (.iconst 4, 1) := by decide +kernel
theorem d2_17 : decode method_2_code 17 = .ok (.if_icmp .eq 14, 3) := by decide +kernel
theorem d2_20 : decode method_2_code 20 = .ok (.iload_n 0, 1) := by decide +kernel
theorem d2_21 : decode method_2_code 21 = .ok (.iconst 5, 1) := by decide +kernel
theorem d2_22 : decode method_2_code 22 = .ok (.if_icmp .eq 9, 3) := by decide +kernel
theorem d2_25 : decode method_2_code 25 = .ok (.iload_n 0, 1) := by decide +kernel
theorem d2_26 : decode method_2_code 26 = .ok (.bipush 6, 2) := by decide +kernel
theorem d2_28 : decode method_2_code 28 = .ok (.if_icmp .ne 7, 3) := by decide +kernel
theorem d2_31 : decode method_2_code 31 = .ok (.iconst 1, 1) := by decide +kernel
theorem d2_32 : decode method_2_code 32 = .ok (.goto 4, 3) := by decide +kernel
theorem d2_35 : decode method_2_code 35 = .ok (.iconst 0, 1) := by decide +kernel
theorem d2_36 : decode method_2_code 36 = .ok (.ireturn, 1) := by decide +kernel
theorem pn_six : plainName "com/example/baize/baize/model/DiceIsFacePinLaw" = true := by first | (simp [plainName, overriddenIn]; done) | decide +kernel
theorem ef_six (m : MethodId) (p0 : Int32) : entryFrame m #[(.int p0)] 1 = mkF m 0 #[.val (.int p0)] [] := by first | (simp [entryFrame, mkF, argsToLocals, Value.category]; done) | rfl
def f_six (p0 : Int32) : Int32 := (if p0 = (1 : Int32) then (1 : Int32) else (if p0 = (2 : Int32) then (1 : Int32) else (if p0 = (3 : Int32) then (1 : Int32) else (if p0 = (4 : Int32) then (1 : Int32) else (if p0 = (5 : Int32) then (1 : Int32) else (if p0 = (6 : Int32) then (1 : Int32) else (0 : Int32)))))))
def Q_six (Z : State) (p0 : Int32) (h0 : Heap) (n0 : Nat) (v : Option Value) (h : Heap) (L : List Loc) : Prop := v = some (.int (f_six p0)) ∧ Fr n0 L ∧ h = h0
set_option maxRecDepth 65536 in
set_option maxHeartbeats 40000000 in
theorem rm_six (l : Launch) (Z : State) (a0 : Array Value) (hw : ∀ d ∈ tables_1, d.before a0 Z = true) (ws : List Jvm.Cond) (p0 : Int32) (h0 : Heap) (n0 : Nat) (Z0 : n0 ≤ h0.size) :
    MetFree l (⟨"com/example/baize/baize/model/DiceIsFacePinLaw", "oneOfTheSixFaces", "(I)Z"⟩ : MethodName) (head1 (Jvm.Cond.code (⟨"com/example/baize/baize/model/DiceIsFacePinLaw", "oneOfTheSixFaces", "(I)Z"⟩ : MethodName) method_2_code 1 (some .boolean) :: ws) ({ frames := 0, cells := 0, slots := 0, locals := 0 } : Room)) (fun a U => a = #[(.int p0)] ∧ Z.Warmed39 U.vm ∧ U.heap = h0) (fun _ _ _ _ _ => True) (fun _ U o U' => ∃ v L, o = .returned v ∧ Q_six Z p0 h0 n0 v U'.heap L ∧ FrameEnd U o U' L ({ frames := 0, cells := 0, slots := 0, locals := 0 } : Room).cells ({ frames := 0, cells := 0, slots := 0, locals := 0 } : Room).slots) := by
  refine MetFree.of_bodySF (plainFor_of_name pn_six) hisR ?_
  intro p e s m args below meth c s₁ Bd hml0 hP hK
  obtain ⟨rfl, hZ, hh⟩ := hP
  have hx := Bd.exec
  have hby := Bd.bytes
  have hml : c.maxLocals = 1 := hml0
  have hown : s.vm.findClass "com/example/baize/baize/model/DiceIsFacePinLaw" = some m.cls := findClass_of_methodNamed Bd.named
  have hnm := (name_of_methodNamed Bd.named Bd.method).1
  have X0 : Stand p l e ({ frames := 0, cells := 0, slots := 0, locals := 0 } : Room) s m #[(.int p0)] below meth c s₁ [] 0 0 := Stand.of_body Bd
  have e0 : s₁.heap = h0 := by rw [← hh, Bd.state]; rfl
  have N0 := Fr.nil n0
  have pre0 : ∀ t, Steps p.tables e below (s₁.setTop (mkF m 0 #[.val (.int p0)] [])) t → Steps p.tables e below (s₁.setTop (entryFrame m #[(.int p0)] 1)) t := fun t k => castTop (ef_six m p0) k
  obtain ⟨fs, hr, hrun, hended, hW, hsame⟩ := X0.leave (v := some (.int (f_six p0))) (fun h => by rw [Bd.returns] at h; cases h)
  refine ⟨_, _, pre0 _ ?_, hrun, hended, _, _, rfl, ?_, ⟨_, rfl⟩, hW, hsame.mono (by decide) (by decide)⟩
  · show Steps p.tables e below (s₁.setTop (mkF m 0 #[.val (.int p0)] [])) _
    refine XS.iloadN X0.here hx rfl (hb hby d2_0) rfl ?_
    show Steps p.tables e below (s₁.setTop (mkF m 1 #[.val (.int p0)] [(.int p0)])) _
    refine XS.iconst X0.here hx rfl (hb hby d2_1) ?_
    show Steps p.tables e below (s₁.setTop (mkF m 2 #[.val (.int p0)] [(.int (1 : Int32)), (.int p0)])) _
    by_cases hc2_0 : p0 = (1 : Int32)
    · refine XS.icmpYes X0.here hx rfl (pc0 := 2) (pc' := 31) rfl (hb hby d2_2) rfl (teq hc2_0).1 (by decide) (by decide) ?_
      show Steps p.tables e below (s₁.setTop (mkF m 31 #[.val (.int p0)] [])) _
      refine XS.iconst X0.here hx rfl (hb hby d2_31) ?_
      show Steps p.tables e below (s₁.setTop (mkF m 32 #[.val (.int p0)] [(.int (1 : Int32))])) _
      refine XS.goto X0.here hx rfl (pc0 := 32) (pc' := 36) rfl (hb hby d2_32) (by decide) (by decide) ?_
      show Steps p.tables e below (s₁.setTop (mkF m 36 #[.val (.int p0)] [(.int (1 : Int32))])) _
      have hf : (f_six p0) = (1 : Int32) := by unfold f_six; rw [if_pos hc2_0]
      rw [hf] at hr
      exact retN X0 hx (t := .boolean) Bd.returns (by simp) (hb hby d2_36) hr
    · refine XS.icmpNo X0.here hx rfl (hb hby d2_2) rfl (feq hc2_0).1 ?_
      show Steps p.tables e below (s₁.setTop (mkF m 5 #[.val (.int p0)] [])) _
      refine XS.iloadN X0.here hx rfl (hb hby d2_5) rfl ?_
      show Steps p.tables e below (s₁.setTop (mkF m 6 #[.val (.int p0)] [(.int p0)])) _
      refine XS.iconst X0.here hx rfl (hb hby d2_6) ?_
      show Steps p.tables e below (s₁.setTop (mkF m 7 #[.val (.int p0)] [(.int (2 : Int32)), (.int p0)])) _
      by_cases hc7_1 : p0 = (2 : Int32)
      · refine XS.icmpYes X0.here hx rfl (pc0 := 7) (pc' := 31) rfl (hb hby d2_7) rfl (teq hc7_1).1 (by decide) (by decide) ?_
        show Steps p.tables e below (s₁.setTop (mkF m 31 #[.val (.int p0)] [])) _
        refine XS.iconst X0.here hx rfl (hb hby d2_31) ?_
        show Steps p.tables e below (s₁.setTop (mkF m 32 #[.val (.int p0)] [(.int (1 : Int32))])) _
        refine XS.goto X0.here hx rfl (pc0 := 32) (pc' := 36) rfl (hb hby d2_32) (by decide) (by decide) ?_
        show Steps p.tables e below (s₁.setTop (mkF m 36 #[.val (.int p0)] [(.int (1 : Int32))])) _
        have hf : (f_six p0) = (1 : Int32) := by unfold f_six; rw [if_neg hc2_0, if_pos hc7_1]
        rw [hf] at hr
        exact retN X0 hx (t := .boolean) Bd.returns (by simp) (hb hby d2_36) hr
      · refine XS.icmpNo X0.here hx rfl (hb hby d2_7) rfl (feq hc7_1).1 ?_
        show Steps p.tables e below (s₁.setTop (mkF m 10 #[.val (.int p0)] [])) _
        refine XS.iloadN X0.here hx rfl (hb hby d2_10) rfl ?_
        show Steps p.tables e below (s₁.setTop (mkF m 11 #[.val (.int p0)] [(.int p0)])) _
        refine XS.iconst X0.here hx rfl (hb hby d2_11) ?_
        show Steps p.tables e below (s₁.setTop (mkF m 12 #[.val (.int p0)] [(.int (3 : Int32)), (.int p0)])) _
        by_cases hc12_2 : p0 = (3 : Int32)
        · refine XS.icmpYes X0.here hx rfl (pc0 := 12) (pc' := 31) rfl (hb hby d2_12) rfl (teq hc12_2).1 (by decide) (by decide) ?_
          show Steps p.tables e below (s₁.setTop (mkF m 31 #[.val (.int p0)] [])) _
          refine XS.iconst X0.here hx rfl (hb hby d2_31) ?_
          show Steps p.tables e below (s₁.setTop (mkF m 32 #[.val (.int p0)] [(.int (1 : Int32))])) _
          refine XS.goto X0.here hx rfl (pc0 := 32) (pc' := 36) rfl (hb hby d2_32) (by decide) (by decide) ?_
          show Steps p.tables e below (s₁.setTop (mkF m 36 #[.val (.int p0)] [(.int (1 : Int32))])) _
          have hf : (f_six p0) = (1 : Int32) := by unfold f_six; rw [if_neg hc2_0, if_neg hc7_1, if_pos hc12_2]
          rw [hf] at hr
          exact retN X0 hx (t := .boolean) Bd.returns (by simp) (hb hby d2_36) hr
        · refine XS.icmpNo X0.here hx rfl (hb hby d2_12) rfl (feq hc12_2).1 ?_
          show Steps p.tables e below (s₁.setTop (mkF m 15 #[.val (.int p0)] [])) _
          refine XS.iloadN X0.here hx rfl (hb hby d2_15) rfl ?_
          show Steps p.tables e below (s₁.setTop (mkF m 16 #[.val (.int p0)] [(.int p0)])) _
          refine XS.iconst X0.here hx rfl (hb hby d2_16) ?_
          show Steps p.tables e below (s₁.setTop (mkF m 17 #[.val (.int p0)] [(.int (4 : Int32)), (.int p0)])) _
          by_cases hc17_3 : p0 = (4 : Int32)
          · refine XS.icmpYes X0.here hx rfl (pc0 := 17) (pc' := 31) rfl (hb hby d2_17) rfl (teq hc17_3).1 (by decide) (by decide) ?_
            show Steps p.tables e below (s₁.setTop (mkF m 31 #[.val (.int p0)] [])) _
            refine XS.iconst X0.here hx rfl (hb hby d2_31) ?_
            show Steps p.tables e below (s₁.setTop (mkF m 32 #[.val (.int p0)] [(.int (1 : Int32))])) _
            refine XS.goto X0.here hx rfl (pc0 := 32) (pc' := 36) rfl (hb hby d2_32) (by decide) (by decide) ?_
            show Steps p.tables e below (s₁.setTop (mkF m 36 #[.val (.int p0)] [(.int (1 : Int32))])) _
            have hf : (f_six p0) = (1 : Int32) := by unfold f_six; rw [if_neg hc2_0, if_neg hc7_1, if_neg hc12_2, if_pos hc17_3]
            rw [hf] at hr
            exact retN X0 hx (t := .boolean) Bd.returns (by simp) (hb hby d2_36) hr
          · refine XS.icmpNo X0.here hx rfl (hb hby d2_17) rfl (feq hc17_3).1 ?_
            show Steps p.tables e below (s₁.setTop (mkF m 20 #[.val (.int p0)] [])) _
            refine XS.iloadN X0.here hx rfl (hb hby d2_20) rfl ?_
            show Steps p.tables e below (s₁.setTop (mkF m 21 #[.val (.int p0)] [(.int p0)])) _
            refine XS.iconst X0.here hx rfl (hb hby d2_21) ?_
            show Steps p.tables e below (s₁.setTop (mkF m 22 #[.val (.int p0)] [(.int (5 : Int32)), (.int p0)])) _
            by_cases hc22_4 : p0 = (5 : Int32)
            · refine XS.icmpYes X0.here hx rfl (pc0 := 22) (pc' := 31) rfl (hb hby d2_22) rfl (teq hc22_4).1 (by decide) (by decide) ?_
              show Steps p.tables e below (s₁.setTop (mkF m 31 #[.val (.int p0)] [])) _
              refine XS.iconst X0.here hx rfl (hb hby d2_31) ?_
              show Steps p.tables e below (s₁.setTop (mkF m 32 #[.val (.int p0)] [(.int (1 : Int32))])) _
              refine XS.goto X0.here hx rfl (pc0 := 32) (pc' := 36) rfl (hb hby d2_32) (by decide) (by decide) ?_
              show Steps p.tables e below (s₁.setTop (mkF m 36 #[.val (.int p0)] [(.int (1 : Int32))])) _
              have hf : (f_six p0) = (1 : Int32) := by unfold f_six; rw [if_neg hc2_0, if_neg hc7_1, if_neg hc12_2, if_neg hc17_3, if_pos hc22_4]
              rw [hf] at hr
              exact retN X0 hx (t := .boolean) Bd.returns (by simp) (hb hby d2_36) hr
            · refine XS.icmpNo X0.here hx rfl (hb hby d2_22) rfl (feq hc22_4).1 ?_
              show Steps p.tables e below (s₁.setTop (mkF m 25 #[.val (.int p0)] [])) _
              refine XS.iloadN X0.here hx rfl (hb hby d2_25) rfl ?_
              show Steps p.tables e below (s₁.setTop (mkF m 26 #[.val (.int p0)] [(.int p0)])) _
              refine XS.bipush X0.here hx rfl (hb hby d2_26) ?_
              show Steps p.tables e below (s₁.setTop (mkF m 28 #[.val (.int p0)] [(.int (6 : Int32)), (.int p0)])) _
              by_cases hc28_5 : p0 = (6 : Int32)
              · refine XS.icmpNo X0.here hx rfl (hb hby d2_28) rfl (teq hc28_5).2 ?_
                show Steps p.tables e below (s₁.setTop (mkF m 31 #[.val (.int p0)] [])) _
                refine XS.iconst X0.here hx rfl (hb hby d2_31) ?_
                show Steps p.tables e below (s₁.setTop (mkF m 32 #[.val (.int p0)] [(.int (1 : Int32))])) _
                refine XS.goto X0.here hx rfl (pc0 := 32) (pc' := 36) rfl (hb hby d2_32) (by decide) (by decide) ?_
                show Steps p.tables e below (s₁.setTop (mkF m 36 #[.val (.int p0)] [(.int (1 : Int32))])) _
                have hf : (f_six p0) = (1 : Int32) := by unfold f_six; rw [if_neg hc2_0, if_neg hc7_1, if_neg hc12_2, if_neg hc17_3, if_neg hc22_4, if_pos hc28_5]
                rw [hf] at hr
                exact retN X0 hx (t := .boolean) Bd.returns (by simp) (hb hby d2_36) hr
              · refine XS.icmpYes X0.here hx rfl (pc0 := 28) (pc' := 35) rfl (hb hby d2_28) rfl (feq hc28_5).2 (by decide) (by decide) ?_
                show Steps p.tables e below (s₁.setTop (mkF m 35 #[.val (.int p0)] [])) _
                refine XS.iconst X0.here hx rfl (hb hby d2_35) ?_
                show Steps p.tables e below (s₁.setTop (mkF m 36 #[.val (.int p0)] [(.int (0 : Int32))])) _
                have hf : (f_six p0) = (0 : Int32) := by unfold f_six; rw [if_neg hc2_0, if_neg hc7_1, if_neg hc12_2, if_neg hc17_3, if_neg hc22_4, if_neg hc28_5]
                rw [hf] at hr
                exact retN X0 hx (t := .boolean) Bd.returns (by simp) (hb hby d2_36) hr
  · show Q_six Z p0 h0 n0 _ s₁.heap _
    rw [e0]
    exact ⟨rfl, N0, rfl⟩
theorem own_eq (n : Int32) : f_face n = f_six n := by
  unfold f_face f_six
  repeat' split
  all_goals first
    | rfl
    | (exfalso; simp only [Int32.lt_iff_toInt_lt, ← Int32.toInt_inj, Int32.reduceToInt] at *; omega)
theorem pn_law : plainName "com/example/baize/baize/model/DiceIsFacePinLaw" = true := by first | (simp [plainName, overriddenIn]; done) | decide +kernel
theorem pd_law_0 : parseMethodDescriptor "(I)Z" = some ⟨[.int], some .boolean⟩ := by decide +kernel
theorem ef_law (m : MethodId) (p0 : Int32) : entryFrame m #[(.int p0)] maxLocals = mkF m 0 #[.val (.int p0)] [] := by first | (simp [entryFrame, mkF, argsToLocals, Value.category, maxLocals]; done) | rfl
def Q_law (Z : State) (p0 : Int32) (h0 : Heap) (n0 : Nat) (v : Option Value) (h : Heap) (L : List Loc) : Prop := v = some (.int (1 : Int32)) ∧ Fr n0 L
set_option maxRecDepth 65536 in
set_option maxHeartbeats 40000000 in
theorem rm_law (l : Launch) (Z : State) (a0 : Array Value) (hw : ∀ d ∈ tables_1, d.before a0 Z = true) (ws : List Jvm.Cond) (p0 : Int32) (h0 : Heap) (n0 : Nat) (Z0 : n0 ≤ h0.size) :
    MetFree l x (head1 (Jvm.Cond.code x code maxLocals ret :: ws) room_1) (fun a U => a = #[(.int p0)] ∧ Z.Warmed39 U.vm ∧ U.heap = h0) (fun _ _ _ _ _ => True) (fun _ U o U' => ∃ v L, o = .returned v ∧ Q_law Z p0 h0 n0 v U'.heap L ∧ FrameEnd U o U' L room_1.cells room_1.slots) := by
  refine MetFree.of_bodySF (plainFor_of_name pn_law) hisR ?_
  intro p e s m args below meth c s₁ Bd hml0 hP hK
  obtain ⟨rfl, hZ, hh⟩ := hP
  have hx := Bd.exec
  have hby := Bd.bytes
  have hml : c.maxLocals = 1 := hml0
  have hown : s.vm.findClass "com/example/baize/baize/model/DiceIsFacePinLaw" = some m.cls := findClass_of_methodNamed Bd.named
  have hnm := (name_of_methodNamed Bd.named Bd.method).1
  have X0 : Stand p l e room_1 s m #[(.int p0)] below meth c s₁ [] 0 0 := Stand.of_body Bd
  have e0 : s₁.heap = h0 := by rw [← hh, Bd.state]; rfl
  have N0 := Fr.nil n0
  have pre0 : ∀ t, Steps p.tables e below (s₁.setTop (mkF m 0 #[.val (.int p0)] [])) t → Steps p.tables e below (s₁.setTop (entryFrame m #[(.int p0)] maxLocals)) t := fun t k => castTop (ef_law m p0) k
  obtain ⟨_, _, ⟨Tr1, Lr1, kr1, nr1⟩, -, Xr1, ⟨Lcr1, hQr1, lr1, yr1, zr1⟩, str1⟩ := Jvm.LawKit.callS X0 hx (y := (⟨"com/example/baize/baize/model/Dice", "isFace", "(I)Z"⟩ : MethodName)) hown (mvT hZ (hw _ (List.mem_of_getElem? (i := 0) rfl))) (mvT hZ (hw _ (List.mem_of_getElem? (i := 1) rfl))) (mvT hZ (hw _ (List.mem_of_getElem? (i := 2) rfl))) (mvT hZ (hw _ (List.mem_of_getElem? (i := 3) rfl))) (by decide) (backOf (W := 0) (rm_face l Z a0 hw [] p0  h0 n0 Z0 ) hZ (hw _ (List.mem_of_getElem? (i := 3) rfl)) (hw _ (List.mem_of_getElem? (i := 2) rfl)) (by decide) (by decide)) (g := (mkF m 1 #[.val (.int p0)] [(.int p0)])) rfl (by rw [hml]; rfl) (argsL := [(.int p0)]) (rest := []) (lenOf pd_law_0 rfl) rfl (by show 2 * 0 + _ ≤ _; exact Nat.le_of_eq rfl) (hb hby at_1) (fun _ _ => ⟨rfl, e0, (by decide : 0 + 0 ≤ _), (by decide : 0 + 0 ≤ _)⟩)
  dsimp only [Pt.U, Pt.locs, Pt.cells, Pt.slots] at Xr1 lr1 yr1 zr1 str1 hQr1
  subst lr1 yr1 zr1
  obtain ⟨rfl, Nr1q, er1⟩ := hQr1
  have Nr1 := Fr.app N0 Nr1q
  obtain ⟨_, _, ⟨Tr2, Lr2, kr2, nr2⟩, -, Xr2, ⟨Lcr2, hQr2, lr2, yr2, zr2⟩, str2⟩ := Jvm.LawKit.callS Xr1 hx (y := (⟨"com/example/baize/baize/model/DiceIsFacePinLaw", "oneOfTheSixFaces", "(I)Z"⟩ : MethodName)) hown (mvT hZ (hw _ (List.mem_of_getElem? (i := 4) rfl))) (mvT hZ (hw _ (List.mem_of_getElem? (i := 5) rfl))) (mvT hZ (hw _ (List.mem_of_getElem? (i := 6) rfl))) (mvT hZ (hw _ (List.mem_of_getElem? (i := 7) rfl))) (by decide) (backOf (W := 1) (rm_six l Z a0 hw [] p0  h0 n0 Z0 ) hZ (hw _ (List.mem_of_getElem? (i := 7) rfl)) (hw _ (List.mem_of_getElem? (i := 6) rfl)) (by decide) (by decide)) (g := (mkF m 5 #[.val (.int p0)] [(.int p0), (.int (f_face p0))])) rfl (by rw [hml]; rfl) (argsL := [(.int p0)]) (rest := [(.int (f_face p0))]) (lenOf pd_law_0 rfl) rfl (by show 2 * 0 + _ ≤ _; exact Nat.le_of_eq rfl) (hb hby at_5) (fun _ _ => ⟨rfl, er1, (by decide : 0 + 0 ≤ _), (by decide : 0 + 0 ≤ _)⟩)
  dsimp only [Pt.U, Pt.locs, Pt.cells, Pt.slots] at Xr2 lr2 yr2 zr2 str2 hQr2
  subst lr2 yr2 zr2
  obtain ⟨rfl, Nr2q, er2⟩ := hQr2
  have Nr2 := Fr.app Nr1 Nr2q
  obtain ⟨fs, hr, hrun, hended, hW, hsame⟩ := Xr2.leave (v := some (.int (1 : Int32))) (fun h => by rw [Bd.returns] at h; cases h)
  refine ⟨_, _, pre0 _ ?_, hrun, hended, _, _, rfl, ?_, ⟨_, rfl⟩, hW, hsame.mono (by decide) (by decide)⟩
  · show Steps p.tables e below (s₁.setTop (mkF m 0 #[.val (.int p0)] [])) _
    refine XS.iloadN X0.here hx rfl (hb hby at_0) rfl ?_
    show Steps p.tables e below (s₁.setTop (mkF m 1 #[.val (.int p0)] [(.int p0)])) _
    refine str1 _ ?_
    show Steps p.tables e below (Tr1.setTop (mkF m 4 #[.val (.int p0)] [(.int (f_face p0))])) _
    refine XS.iloadN Xr1.here hx rfl (hb hby at_4) rfl ?_
    show Steps p.tables e below (Tr1.setTop (mkF m 5 #[.val (.int p0)] [(.int p0), (.int (f_face p0))])) _
    refine str2 _ ?_
    show Steps p.tables e below (Tr2.setTop (mkF m 8 #[.val (.int p0)] [(.int (f_six p0)), (.int (f_face p0))])) _
    refine XS.icmpNo Xr2.here hx rfl (hb hby at_8) rfl (teq (own_eq p0)).2 ?_
    show Steps p.tables e below (Tr2.setTop (mkF m 11 #[.val (.int p0)] [])) _
    refine XS.iconst Xr2.here hx rfl (hb hby at_11) ?_
    show Steps p.tables e below (Tr2.setTop (mkF m 12 #[.val (.int p0)] [(.int (1 : Int32))])) _
    refine XS.goto Xr2.here hx rfl (pc0 := 12) (pc' := 16) rfl (hb hby at_12) (by decide) (by decide) ?_
    show Steps p.tables e below (Tr2.setTop (mkF m 16 #[.val (.int p0)] [(.int (1 : Int32))])) _
    exact retN Xr2 hx (t := .boolean) Bd.returns (by simp) (hb hby at_16) hr
  · show Q_law Z p0 h0 n0 _ Tr2.heap _
    rw [er2]
    exact ⟨rfl, Nr2⟩
set_option maxRecDepth 65536 in
set_option maxHeartbeats 40000000 in
theorem comes_1 {Post : Tables → Env → Array Value → State → Outcome → State → Prop} (hpost : ∀ tb e args s v u, (limb_1_1.after args s (.returned v) u = true ∧ limb_1_2.after args s (.returned v) u = true ∧ True) → FrameEnd s (.returned v) u (Jvm.fieldLocs frame_1_writes args s ++ Jvm.arrayLocs frame_1_arrays args s ++ Jvm.staticLocs frame_1_statics s) 0 0 → Post tb e args s (.returned v) u) :
    ArmFor flags0 classFile x code maxLocals ret World_1 tables_1 room_1 Calls_1 rest_1 Pre_1 Post := by
  intro l hfl _ _ p e ha hc hk s m args below hf hA hF happ hP
  obtain ⟨hcalls, hrest, hpre⟩ := hP
  obtain ⟨-, -, -, hnamed, -, -, -, hat⟩ := (Spec.applies_iff hf).mp happ
  obtain ⟨hg, hn⟩ := and_e (Cond.before_iff.mp (show (Jvm.Cond.and given_1 narrow_1).before args s = true from hpre))
  obtain ⟨hcount, hq0⟩ := and_e hg
  have ha0 := hq0
  obtain ⟨w0, rfl⟩ : ∃ w0 : Value, args = #[w0] := by
    have hs : args.size = 1 := by simpa [Cond.value, given_1] using hcount
    obtain ⟨L⟩ := args
    match L, hs with
    | [w0], _ => exact ⟨w0, rfl⟩
  have hw := fun d (hd : d ∈ tables_1) => atoms_spec (ws := Jvm.Cond.code x code maxLocals ret :: tables_1) hat d (List.mem_cons_of_mem _ hd)
  have hfit : Fit s := fun {y c} hc i hi => by
    obtain ⟨ha, rfl⟩ := Array.getElem?_eq_some_iff.mp hc
    have q := List.all_eq_true.mp ((Array.all_eq_true_iff_forall_mem.mp hF) _ (Array.getElem_mem ha)) i (List.mem_range.mpr hi)
    simpa [Array.getElem?_eq_getElem hi] using q
  obtain ⟨i0, ei0⟩ := is_v ha0
  obtain rfl : w0 = (.int i0) := Option.some.inj ei0
  obtain ⟨n, o, h1, h2, h3, _, L, rfl, ⟨rfl, N⟩, hq⟩ := rm_law l s _ hw tables_1 i0  s.heap s.heap.size (Nat.le_refl _)  p e ha hc hk s m _ below hf ((Spec.applies_iff_loose hf).mp happ).1 ⟨rfl, State.Warmed39.refl s, rfl⟩ trivial
  refine ⟨n, _, h1, h2, h3, hpost _ _ _ _ _ _ ⟨Cond.after_iff.mpr rfl, Cond.after_iff.mpr (eq_i res_at (Term.int_eval (1)) rfl), trivial⟩ ⟨hq.1, hq.2.1, (hq.2.2.sift fun y hy => Or.inr (N y hy)).mono (by decide) (by decide)⟩⟩
theorem main_1_1 : Claimed_1_1 := comes_1 fun _ _ _ _ _ _ h hF => ⟨h.1, hF⟩
theorem main_1_2 : Claimed_1_2 := comes_1 fun _ _ _ _ _ _ h hF => ⟨h.2.1, hF⟩
end Jvm.Pilot.@@N@@
namespace Jvm.Pilot.@@N@@
open Jvm Jvm.ClassFile Sem Op Lib Jvm.Free Jvm.Stand Jvm.Pilot.@@N@@.Jvm.D
/-! MADE BY PROGRAM (witnessworld.py) out of the Statement's table words and the real class files: 10 classes; the members and pool entries that the words name. The judged class is class 1, her method 2. -/
namespace start1
open Jvm.ClassFile
def u (s : String) : CpInfo := .utf8 (stringToUtf16 s)
/-- a pool by its gaps: so many unusable entries, then the entry; so many at the end -/
def gap : Nat → List CpInfo → List CpInfo
  | 0, r => r
  | n + 1, r => .unusable :: gap n r
def poolList (es : List (Nat × CpInfo)) (last : Nat) : List CpInfo := es.foldr (fun e r => gap e.1 (e.2 :: r)) (gap last [])
def pool (es : List (Nat × CpInfo)) (last : Nat) : Array CpInfo := ⟨poolList es last⟩
def fileOf (pool : Array CpInfo) (this : Nat) (attrs : Array Attribute := #[]) (ms : Array MethodInfo := #[]) (fl : Nat := 33) (sup : Nat := 0) (ifs : Array Nat := #[]) (fds : Array FieldInfo := #[]) : ClassFile where
  minorVersion := 0
  majorVersion := 65
  constantPool := pool
  accessFlags := fl
  thisClass := this
  superClass := sup
  interfaces := ifs
  fields := fds
  methods := ms
  attributes := attrs
def plain (name : String) (sup : Option ClassId) : Class where
  name := name
  kind := .ordinary
  loader := none
  accessFlags := 33
  super := sup
  interfaces := #[]
  cf := none
  fields := #[]
  methods := #[]
  instanceTypes := #[]
  staticTypes := #[]
  resolved := #[]
  callSites := []
  init := .initialized
  statics := none
  mirror := none

def pool0 : Array CpInfo := pool [(5, u "<init>"), (0, u "()V"), (1, .class_ 10), (1, u "java/lang/Object")] 113

def k0m0 : Method := { name := "<init>", desc := "()V", sig := { parameters := [], returnType := none }, accessFlags := 1, code := none }
/-- java/lang/Object -/
def k0 : Class := { plain "java/lang/Object" none with
  accessFlags := 33
  interfaces := #[]
  cf := some (fileOf pool0 8 #[] #[{ accessFlags := 1, nameIndex := 5, descriptorIndex := 6, attributes := #[] }] 33 0 #[] #[])
  fields := #[]
  methods := #[k0m0]
  instanceTypes := #[]
  staticTypes := #[]
  resolved := Array.replicate 124 none
  statics := none }

def pool1 : Array CpInfo := pool [(2, .class_ 4), (1, u "java/lang/Object"), (0, u "<init>"), (0, u "()V"), (0, .methodref 8 9), (0, .class_ 10), (0, .nameAndType 11 12), (0, u "com/example/baize/baize/model/Dice"), (0, u "isFace"), (0, u "(I)Z"), (0, .methodref 14 15), (0, .class_ 16), (0, .nameAndType 17 12), (0, u "com/example/baize/baize/model/DiceIsFacePinLaw"), (0, u "oneOfTheSixFaces"), (3, u "law")] 2

def k1m0 : Method := { name := "<init>", desc := "()V", sig := { parameters := [], returnType := none }, accessFlags := 2, code := none }
def k1c1 : Code := { maxStack := 2, maxLocals := 1, code := method_2_code, exceptionTable := #[], attributes := #[] }
def k1m1 : Method := { name := "oneOfTheSixFaces", desc := "(I)Z", sig := { parameters := [.int], returnType := some .boolean }, accessFlags := 10, code := some k1c1 }
def k1c2 : Code := { maxStack := 2, maxLocals := 1, code := code, exceptionTable := #[], attributes := #[] }
def k1m2 : Method := { name := "law", desc := "(I)Z", sig := { parameters := [.int], returnType := some .boolean }, accessFlags := 9, code := some k1c2 }
/-- com/example/baize/baize/model/DiceIsFacePinLaw -/
def k1 : Class := { plain "com/example/baize/baize/model/DiceIsFacePinLaw" (some 0) with
  accessFlags := 49
  interfaces := #[]
  cf := some (fileOf pool1 14 #[] #[{ accessFlags := 2, nameIndex := 5, descriptorIndex := 6, attributes := #[] }, { accessFlags := 10, nameIndex := 17, descriptorIndex := 12, attributes := #[] }, { accessFlags := 9, nameIndex := 21, descriptorIndex := 12, attributes := #[] }] 49 2 #[] #[])
  fields := #[]
  methods := #[k1m0, k1m1, k1m2]
  instanceTypes := #[]
  staticTypes := #[]
  resolved := Array.replicate 24 none
  statics := none }

def pool2 : Array CpInfo := pool [(2, .class_ 4), (1, u "java/lang/Object"), (0, u "<init>"), (0, u "()V"), (0, .class_ 8), (0, u "java/lang/Record")] 13

def k2m0 : Method := { name := "<init>", desc := "()V", sig := { parameters := [], returnType := none }, accessFlags := 4, code := none }
/-- java/lang/Record -/
def k2 : Class := { plain "java/lang/Record" (some 0) with
  accessFlags := 1057
  interfaces := #[]
  cf := some (fileOf pool2 7 #[] #[{ accessFlags := 4, nameIndex := 5, descriptorIndex := 6, attributes := #[] }] 1057 2 #[] #[])
  fields := #[]
  methods := #[k2m0]
  instanceTypes := #[]
  staticTypes := #[]
  resolved := Array.replicate 22 none
  statics := none }

def pool3 : Array CpInfo := pool [(2, .class_ 4), (1, u "java/lang/Record"), (14, .class_ 20), (0, u "com/example/baize/baize/model/Dice"), (26, u "isFace"), (0, u "(I)Z"), (2, u "faces"), (0, u "Ljava/util/List;"), (49, u "INVALID_DICE"), (0, u "Ljava/lang/String;"), (1, u "LOWEST_FACE"), (0, u "I"), (1, u "HIGHEST_FACE")] 33

def k3c0 : Code := { maxStack := 2, maxLocals := 1, code := prog_12_method_3_code, exceptionTable := #[], attributes := #[] }
def k3m0 : Method := { name := "isFace", desc := "(I)Z", sig := { parameters := [.int], returnType := some .boolean }, accessFlags := 9, code := some k3c0 }
/-- com/example/baize/baize/model/Dice -/
def k3 : Class := { plain "com/example/baize/baize/model/Dice" (some 2) with
  accessFlags := 49
  interfaces := #[]
  cf := some (fileOf pool3 19 #[] #[{ accessFlags := 9, nameIndex := 47, descriptorIndex := 48, attributes := #[] }] 49 2 #[] #[{ accessFlags := 18, nameIndex := 51, descriptorIndex := 52, attributes := #[] }, { accessFlags := 25, nameIndex := 102, descriptorIndex := 103, attributes := #[] }, { accessFlags := 25, nameIndex := 105, descriptorIndex := 106, attributes := #[] }, { accessFlags := 25, nameIndex := 108, descriptorIndex := 106, attributes := #[] }])
  fields := #[{ name := "faces", type := (.object "java/util/List"), accessFlags := 18, slot := 0, constantValue := 0 }, { name := "INVALID_DICE", type := (.object "java/lang/String"), accessFlags := 25, slot := 0, constantValue := 0 }, { name := "LOWEST_FACE", type := .int, accessFlags := 25, slot := 1, constantValue := 0 }, { name := "HIGHEST_FACE", type := .int, accessFlags := 25, slot := 2, constantValue := 0 }]
  methods := #[k3m0]
  instanceTypes := #[(.object "java/util/List")]
  staticTypes := #[(.object "java/lang/String"), .int, .int]
  resolved := Array.replicate 142 none
  statics := none }

def pool4 : Array CpInfo := pool [(1, u "java/lang/Cloneable"), (0, .class_ 1), (0, u "java/lang/Object"), (0, .class_ 3)] 3

/-- java/lang/Cloneable -/
def k4 : Class := { plain "java/lang/Cloneable" (some 0) with
  accessFlags := 1537
  interfaces := #[]
  cf := some (fileOf pool4 2 #[] #[] 1537 4 #[] #[])
  fields := #[]
  methods := #[]
  instanceTypes := #[]
  staticTypes := #[]
  resolved := Array.replicate 8 none
  statics := none }

def pool5 : Array CpInfo := pool [(1, u "java/io/Serializable"), (0, .class_ 1), (0, u "java/lang/Object"), (0, .class_ 3)] 3

/-- java/io/Serializable -/
def k5 : Class := { plain "java/io/Serializable" (some 0) with
  accessFlags := 1537
  interfaces := #[]
  cf := some (fileOf pool5 2 #[] #[] 1537 4 #[] #[])
  fields := #[]
  methods := #[]
  instanceTypes := #[]
  staticTypes := #[]
  resolved := Array.replicate 8 none
  statics := none }

/-- the primitive byte -/
def k6 : Class := { plain "byte" none with kind := .primitive 'B', accessFlags := 0x411 }
/-- [B -/
def k7 : Class := { plain "[B" (some 0) with kind := .array 6 .byte, interfaces := #[4, 5], accessFlags := 1041 }

/-- the primitive int -/
def k8 : Class := { plain "int" none with kind := .primitive 'I', accessFlags := 0x411 }
/-- [I -/
def k9 : Class := { plain "[I" (some 0) with kind := .array 8 .int, interfaces := #[4, 5], accessFlags := 1041 }

def heap : Heap := #[]
def classes : Array Class := #[k0, k1, k2, k3, k4, k5, k6, k7, k8, k9]
def interned : List (Array UInt16 × Addr) := []
def slotsUsed : Nat := 0
def theMethod : MethodId := ⟨1, 2⟩
def args0 : Array Value := #[.int 5]
def aboutOver (below : List Frame) : State where
  vm := { classes := classes, interned := interned.toArray }
  heap := heap
  slotsUsed := slotsUsed
  threads := #[{ frames := .invoking theMethod args0 :: below }]
def below0 : List Frame := [.native { method := ⟨0, 0⟩, args := #[] }]
def about1 : State := aboutOver below0
def p0 : Program := .bare "" "" ""
def e0 : Env := launch0.env 0 0 0
theorem w_frames : about1.frames = Frame.invoking theMethod args0 :: below0 := rfl
set_option maxRecDepth 65536 in
theorem w_args : argsFit about1.vm theMethod args0 = true := by decide +kernel
set_option maxRecDepth 65536 in
theorem w_heap : heapFits about1 = true := by decide +kernel
set_option maxRecDepth 65536 in
theorem w_runnable : about1.curStatus? = some .runnable := by decide +kernel
set_option maxRecDepth 65536 in
theorem w_alone : about1.alone = true := by decide +kernel
set_option maxRecDepth 65536 in
theorem w_named : about1.methodNamed? x = some theMethod := by decide +kernel
set_option maxRecDepth 65536 in
theorem w_hears : about1.hears theMethod below0 = true := by decide +kernel
set_option maxRecDepth 65536 in
theorem w_ripe : about1.ripe theMethod args0 below0 = true := by decide +kernel
theorem w_running : about1.status = .running := rfl
set_option maxRecDepth 65536 in
theorem w_room : about1.hasRoom e0.platform room_1 = true :=
  launch0.hasRoom_least _ room_1 (by decide +kernel) (by decide +kernel) (by decide +kernel) (by decide +kernel) (by decide +kernel) (by decide +kernel)
theorem allAtoms_all (ts : List Jvm.Cond) (a : Array Jvm.Value) (st : Jvm.State) : (allAtoms ts).before a st = ts.all (fun c => c.before a st) := by
  induction ts with
  | nil => rfl
  | cons c t ih =>
    show (Jvm.Cond.and c (allAtoms t)).before a st = _
    rw [Jvm.Cond.before_and, ih, List.all_cons]
def words1 : List Jvm.Cond := Jvm.Cond.code x code maxLocals ret :: tables_1
/-- a 'code' word, met by the world's own term for the bytes: nothing is compared byte by byte -/
theorem code_word {y : MethodName} {bytes : ByteArray} {mx : Nat} {rt : Option FieldType} {a : Array Value} {s : State} {m : MethodId} {meth : Method} {c : Code} (h1 : s.methodNamed? y = some m) (h2 : s.vm.method? m = some meth) (h3 : meth.code = some c) (h4 : c.code = bytes)
    (h5 : (c.maxLocals == mx && c.exceptionTable.isEmpty && decide (c.maxStack ≤ mostOperands) && decide (meth.sig.returnType = rt) && !meth.locks && decide (parseMethodDescriptor y.desc = some meth.sig)) = true) : (Jvm.Cond.code y bytes mx rt).before a s = true := by
  simp only [Bool.and_eq_true, beq_iff_eq, Bool.not_eq_true', decide_eq_true_eq] at h5
  obtain ⟨⟨⟨⟨⟨g1, g2⟩, g3⟩, g4⟩, g5⟩, g6⟩ := h5
  simp [Cond.before, Cond.holds, Cond.value, h1, h2, h3, h4, g1, g2, g3, g4, g5, g6]
def isCode : Jvm.Cond → Bool
  | .code _ _ _ _ => true
  | _ => false
theorem all_split {L : List Jvm.Cond} {P : Jvm.Cond → Bool} (h1 : L.all (fun c => isCode c || P c) = true) (h2 : ∀ c ∈ L.filter isCode, P c = true) : L.all P = true := by
  refine List.all_eq_true.mpr fun c hc => ?_
  have h := List.all_eq_true.mp h1 c hc
  rcases Bool.eq_false_or_eq_true (isCode c) with hi | hi
  · exact h2 c (List.mem_filter.mpr ⟨hc, hi⟩)
  · simpa [hi] using h
set_option maxRecDepth 65536 in
theorem w_c0 : (Jvm.Cond.code x code maxLocals ret).before args0 about1 = true := code_word (m := ⟨1, 2⟩) (meth := k1m2) (c := k1c2) (by decide +kernel) rfl rfl rfl (by decide +kernel)
set_option maxRecDepth 65536 in
theorem w_c1 : (Jvm.Cond.code ({ cls := "com/example/baize/baize/model/Dice", name := "isFace", desc := "(I)Z" } : Jvm.MethodName) prog_12_method_3_code (1 : Nat) (Option.some Jvm.ClassFile.FieldType.boolean)).before args0 about1 = true := code_word (m := ⟨3, 0⟩) (meth := k3m0) (c := k3c0) (by decide +kernel) rfl rfl rfl (by decide +kernel)
set_option maxRecDepth 65536 in
theorem w_c2 : (Jvm.Cond.code ({ cls := "com/example/baize/baize/model/DiceIsFacePinLaw", name := "oneOfTheSixFaces", desc := "(I)Z" } : Jvm.MethodName) method_2_code (1 : Nat) (Option.some Jvm.ClassFile.FieldType.boolean)).before args0 about1 = true := code_word (m := ⟨1, 1⟩) (meth := k1m1) (c := k1c1) (by decide +kernel) rfl rfl rfl (by decide +kernel)
def codes1 : List Jvm.Cond := [Jvm.Cond.code x code maxLocals ret, Jvm.Cond.code ({ cls := "com/example/baize/baize/model/Dice", name := "isFace", desc := "(I)Z" } : Jvm.MethodName) prog_12_method_3_code (1 : Nat) (Option.some Jvm.ClassFile.FieldType.boolean), Jvm.Cond.code ({ cls := "com/example/baize/baize/model/DiceIsFacePinLaw", name := "oneOfTheSixFaces", desc := "(I)Z" } : Jvm.MethodName) method_2_code (1 : Nat) (Option.some Jvm.ClassFile.FieldType.boolean)]
set_option maxRecDepth 65536 in
theorem codes_eq : words1.filter isCode = codes1 := rfl
theorem w_codes : ∀ c ∈ words1.filter isCode, c.before args0 about1 = true := by
  rw [codes_eq]
  intro c hc
  simp only [codes1, List.mem_cons, List.not_mem_nil, or_false] at hc
  rcases hc with rfl | rfl | rfl
  · exact w_c0
  · exact w_c1
  · exact w_c2
set_option maxRecDepth 65536 in
theorem w_t1 : words1.all (fun c => isCode c || c.before args0 about1) = true := by decide +kernel
theorem w_tables : (allAtoms (Jvm.Cond.code x code maxLocals ret :: tables_1)).before args0 about1 = true := by
  rw [allAtoms_all]
  show words1.all (fun c => c.before args0 about1) = true
  refine all_split ?_ w_codes
  rw [w_t1]
set_option maxRecDepth 65536 in
theorem w_case : (Jvm.Cond.and given_1 narrow_1).before args0 about1 = true := by decide +kernel
theorem w_applies : (headSpec (Jvm.Cond.code x code maxLocals ret :: tables_1) room_1).applies x e0.platform about1 = true :=
  (Spec.applies_iff w_frames).mpr ⟨w_running, w_runnable, w_alone, w_named, w_hears, w_ripe, w_room, w_tables⟩
theorem atStart : AtStart classFile x code maxLocals ret World_1 tables_1 room_1 Calls_1 rest_1 Pre_1 launch0 p0 e0 about1 theMethod args0 below0 :=
  ⟨lists_1, trivial, launch0.admits_env _ _ _, launch0.least_env, fairChoices_fair.cas, fairChoices_fair.clock, w_frames, w_args, w_heap, w_applies, trivial, trivial, w_case⟩
end start1
theorem witness_1 : WitnessClaimed_1 := ⟨start1.p0, start1.e0, start1.about1, start1.theMethod, start1.args0, start1.below0, start1.atStart⟩
end Jvm.Pilot.@@N@@
