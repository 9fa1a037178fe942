import JvmDerived
import JvmDerived.Pilot.@@N@@Statement
import JvmDerived.Pilot.@@N@@Code
set_option linter.unusedVariables false
set_option linter.unusedSimpArgs false
@@BLOCK:NumsL.lean.txt@@
namespace Jvm.RoadKit
open Sem ClassFile Op Lib Jvm.Stand Jvm.Free Jvm.LawKit
section New
variable {p : Program} {l : Launch} {e : Env} {R : Room} {s : State} {m : MethodId} {args : Array Value} {below : List Frame} {meth : Method} {c : Code} {T : State} {locs : List Loc} {cells slots : Nat}
theorem retI (X : Stand p l e R s m args below meth c T locs cells slots) (hx : p.tables.exec = Jvm.exec) {pc : Nat} {Ls : Array Slot} {z : Int32} {rest : List Value} (hret : meth.sig.returnType = some .int) (hd : decode c.code pc = .ok (.ireturn, 1)) {fs : List Frame}
    (hl : ∀ (f : JFrame) (acts : List Action), f.method = m → f.locked = none → f.entered = [] → (doReturn e (T.setTop f) acts (some (.int z))).1 = T.setFrames fs) : Steps p.tables e below (T.setTop (mkF m pc Ls (.int z :: rest))) (T.setFrames fs) := by
  have hm' : T.vm.method? m = some meth := X.method'
  have hn : narrow .int (.int z) = .int z := rfl
  show Steps p.tables e below (T.setTop { method := m, pc := pc, locals := Ls, stack := _ :: rest, locked := none }) _
  jvm_step X.here [X.here.top, hx, hd, hm', hret, hn]
  first | (intro acts; rw [hl _ acts rfl rfl rfl]) | rw [hl _ _ rfl rfl rfl]
  exact Steps.refl _
end New
end Jvm.RoadKit
namespace Jvm.Pilot.@@N@@
open Jvm Jvm.ClassFile Sem Op Lib Jvm.Free Jvm.Stand Jvm.LawKit Jvm.RoadKit Bundle Jvm.Pilot.@@N@@.Jvm.D
theorem d1_0 : decode prog_82_method_14_code 0 = .ok (.iload_n 0, 1) := by decide +kernel
theorem d1_1 : decode prog_82_method_14_code 1 = .ok (.bipush 65, 2) := by decide +kernel
theorem d1_3 : decode prog_82_method_14_code 3 = .ok (.if_icmp .lt 9, 3) := by decide +kernel
theorem d1_6 : decode prog_82_method_14_code 6 = .ok (.iload_n 0, 1) := by decide +kernel
theorem d1_7 : decode prog_82_method_14_code 7 = .ok (.bipush 90, 2) := by decide +kernel
theorem d1_9 : decode prog_82_method_14_code 9 = .ok (.if_icmp .le 15, 3) := by decide +kernel
theorem d1_12 : decode prog_82_method_14_code 12 = .ok (.iload_n 0, 1) := by decide +kernel
theorem d1_13 : decode prog_82_method_14_code 13 = .ok (.bipush 97, 2) := by decide +kernel
theorem d1_15 : decode prog_82_method_14_code 15 = .ok (.if_icmp .lt 13, 3) := by decide +kernel
theorem d1_18 : decode prog_82_method_14_code 18 = .ok (.iload_n 0, 1) := by decide +kernel
theorem d1_19 : decode prog_82_method_14_code 19 = .ok (.bipush 122, 2) := by decide +kernel
theorem d1_21 : decode prog_82_method_14_code 21 = .ok (.if_icmp .gt 7, 3) := by decide +kernel
theorem d1_24 : decode prog_82_method_14_code 24 = .ok (.iconst 1, 1) := by decide +kernel
theorem d1_25 : decode prog_82_method_14_code 25 = .ok (.goto 4, 3) := by decide +kernel
theorem d1_28 : decode prog_82_method_14_code 28 = .ok (.iconst 0, 1) := by decide +kernel
theorem d1_29 : decode prog_82_method_14_code 29 = .ok (.ireturn, 1) := by decide +kernel
theorem pn_alpha : plainName "com/example/wharfline/wharfline/http/HttpSyntax" = true := by first | (simp [plainName, overriddenIn]; done) | decide +kernel
theorem ef_alpha (m : MethodId) (p0 : Int32) : entryFrame m #[(.int p0)] 1 = mkF m 0 #[.val (.int p0)] [] := by first | (simp [entryFrame, mkF, argsToLocals, Value.category]; done) | rfl
def f_alpha (p0 : Int32) : Int32 := (if p0 < (65 : Int32) then (if p0 < (97 : Int32) then (0 : Int32) else (if (122 : Int32) < p0 then (0 : Int32) else (1 : Int32))) else (if (90 : Int32) < p0 then (if p0 < (97 : Int32) then (0 : Int32) else (if (122 : Int32) < p0 then (0 : Int32) else (1 : Int32))) else (1 : Int32)))
def Q_alpha (Z : State) (p0 : Int32) (h0 : Heap) (n0 : Nat) (v : Option Value) (h : Heap) (L : List Loc) : Prop := v = some (.int (f_alpha p0)) ∧ Fr n0 L ∧ h = h0
set_option maxRecDepth 65536 in
set_option maxHeartbeats 40000000 in
theorem rm_alpha (l : Launch) (Z : State) (a0 : Array Value) (hw : ∀ d ∈ tables_1, d.before a0 Z = true) (ws : List Jvm.Cond) (p0 : Int32) (h0 : Heap) (n0 : Nat) (Z0 : n0 ≤ h0.size) :
    MetFree l (⟨"com/example/wharfline/wharfline/http/HttpSyntax", "isAlpha", "(I)Z"⟩ : MethodName) (head1 (Jvm.Cond.code (⟨"com/example/wharfline/wharfline/http/HttpSyntax", "isAlpha", "(I)Z"⟩ : MethodName) prog_82_method_14_code 1 (some .boolean) :: ws) ({ frames := 0, cells := 0, slots := 0, locals := 0 } : Room)) (fun a U => a = #[(.int p0)] ∧ Z.Warmed39 U.vm ∧ U.heap = h0) (fun _ _ _ _ _ => True) (fun _ U o U' => ∃ v L, o = .returned v ∧ Q_alpha Z p0 h0 n0 v U'.heap L ∧ FrameEnd U o U' L ({ frames := 0, cells := 0, slots := 0, locals := 0 } : Room).cells ({ frames := 0, cells := 0, slots := 0, locals := 0 } : Room).slots) := by
  refine MetFree.of_bodySF (plainFor_of_name pn_alpha) hisR ?_
  intro p e s m args below meth c s₁ Bd hml0 hP hK
  obtain ⟨rfl, hZ, hh⟩ := hP
  have hx := Bd.exec
  have hby := Bd.bytes
  have hml : c.maxLocals = 1 := hml0
  have hown : s.vm.findClass "com/example/wharfline/wharfline/http/HttpSyntax" = some m.cls := findClass_of_methodNamed Bd.named
  have hnm := (name_of_methodNamed Bd.named Bd.method).1
  have X0 : Stand p l e ({ frames := 0, cells := 0, slots := 0, locals := 0 } : Room) s m #[(.int p0)] below meth c s₁ [] 0 0 := Stand.of_body Bd
  have e0 : s₁.heap = h0 := by rw [← hh, Bd.state]; rfl
  have N0 := Fr.nil n0
  have pre0 : ∀ t, Steps p.tables e below (s₁.setTop (mkF m 0 #[.val (.int p0)] [])) t → Steps p.tables e below (s₁.setTop (entryFrame m #[(.int p0)] 1)) t := fun t k => castTop (ef_alpha m p0) k
  obtain ⟨fs, hr, hrun, hended, hW, hsame⟩ := X0.leave (v := some (.int (f_alpha p0))) (fun h => by rw [Bd.returns] at h; cases h)
  refine ⟨_, _, pre0 _ ?_, hrun, hended, _, _, rfl, ?_, ⟨_, rfl⟩, hW, hsame.mono (by decide) (by decide)⟩
  · show Steps p.tables e below (s₁.setTop (mkF m 0 #[.val (.int p0)] [])) _
    refine XS.iloadN X0.here hx rfl (hb hby d1_0) rfl ?_
    show Steps p.tables e below (s₁.setTop (mkF m 1 #[.val (.int p0)] [(.int p0)])) _
    refine XS.bipush X0.here hx rfl (hb hby d1_1) ?_
    show Steps p.tables e below (s₁.setTop (mkF m 3 #[.val (.int p0)] [(.int (65 : Int32)), (.int p0)])) _
    by_cases hc3_0 : p0 < (65 : Int32)
    · refine XS.icmpYes X0.here hx rfl (pc0 := 3) (pc' := 12) rfl (hb hby d1_3) rfl (tlt hc3_0).1 (by decide) (by decide) ?_
      show Steps p.tables e below (s₁.setTop (mkF m 12 #[.val (.int p0)] [])) _
      refine XS.iloadN X0.here hx rfl (hb hby d1_12) rfl ?_
      show Steps p.tables e below (s₁.setTop (mkF m 13 #[.val (.int p0)] [(.int p0)])) _
      refine XS.bipush X0.here hx rfl (hb hby d1_13) ?_
      show Steps p.tables e below (s₁.setTop (mkF m 15 #[.val (.int p0)] [(.int (97 : Int32)), (.int p0)])) _
      by_cases hc15_1 : p0 < (97 : Int32)
      · refine XS.icmpYes X0.here hx rfl (pc0 := 15) (pc' := 28) rfl (hb hby d1_15) rfl (tlt hc15_1).1 (by decide) (by decide) ?_
        show Steps p.tables e below (s₁.setTop (mkF m 28 #[.val (.int p0)] [])) _
        refine XS.iconst X0.here hx rfl (hb hby d1_28) ?_
        show Steps p.tables e below (s₁.setTop (mkF m 29 #[.val (.int p0)] [(.int (0 : Int32))])) _
        have hf : (f_alpha p0) = (0 : Int32) := by unfold f_alpha; rw [if_pos hc3_0, if_pos hc15_1]
        rw [hf] at hr
        exact retN X0 hx (t := .boolean) Bd.returns (by simp) (hb hby d1_29) hr
      · refine XS.icmpNo X0.here hx rfl (hb hby d1_15) rfl (flt hc15_1).1 ?_
        show Steps p.tables e below (s₁.setTop (mkF m 18 #[.val (.int p0)] [])) _
        refine XS.iloadN X0.here hx rfl (hb hby d1_18) rfl ?_
        show Steps p.tables e below (s₁.setTop (mkF m 19 #[.val (.int p0)] [(.int p0)])) _
        refine XS.bipush X0.here hx rfl (hb hby d1_19) ?_
        show Steps p.tables e below (s₁.setTop (mkF m 21 #[.val (.int p0)] [(.int (122 : Int32)), (.int p0)])) _
        by_cases hc21_2 : (122 : Int32) < p0
        · refine XS.icmpYes X0.here hx rfl (pc0 := 21) (pc' := 28) rfl (hb hby d1_21) rfl (tlt hc21_2).2.2.1 (by decide) (by decide) ?_
          show Steps p.tables e below (s₁.setTop (mkF m 28 #[.val (.int p0)] [])) _
          refine XS.iconst X0.here hx rfl (hb hby d1_28) ?_
          show Steps p.tables e below (s₁.setTop (mkF m 29 #[.val (.int p0)] [(.int (0 : Int32))])) _
          have hf : (f_alpha p0) = (0 : Int32) := by unfold f_alpha; rw [if_pos hc3_0, if_neg hc15_1, if_pos hc21_2]
          rw [hf] at hr
          exact retN X0 hx (t := .boolean) Bd.returns (by simp) (hb hby d1_29) hr
        · refine XS.icmpNo X0.here hx rfl (hb hby d1_21) rfl (flt hc21_2).2.2.1 ?_
          show Steps p.tables e below (s₁.setTop (mkF m 24 #[.val (.int p0)] [])) _
          refine XS.iconst X0.here hx rfl (hb hby d1_24) ?_
          show Steps p.tables e below (s₁.setTop (mkF m 25 #[.val (.int p0)] [(.int (1 : Int32))])) _
          refine XS.goto X0.here hx rfl (pc0 := 25) (pc' := 29) rfl (hb hby d1_25) (by decide) (by decide) ?_
          show Steps p.tables e below (s₁.setTop (mkF m 29 #[.val (.int p0)] [(.int (1 : Int32))])) _
          have hf : (f_alpha p0) = (1 : Int32) := by unfold f_alpha; rw [if_pos hc3_0, if_neg hc15_1, if_neg hc21_2]
          rw [hf] at hr
          exact retN X0 hx (t := .boolean) Bd.returns (by simp) (hb hby d1_29) hr
    · refine XS.icmpNo X0.here hx rfl (hb hby d1_3) rfl (flt hc3_0).1 ?_
      show Steps p.tables e below (s₁.setTop (mkF m 6 #[.val (.int p0)] [])) _
      refine XS.iloadN X0.here hx rfl (hb hby d1_6) rfl ?_
      show Steps p.tables e below (s₁.setTop (mkF m 7 #[.val (.int p0)] [(.int p0)])) _
      refine XS.bipush X0.here hx rfl (hb hby d1_7) ?_
      show Steps p.tables e below (s₁.setTop (mkF m 9 #[.val (.int p0)] [(.int (90 : Int32)), (.int p0)])) _
      by_cases hc9_1 : (90 : Int32) < p0
      · refine XS.icmpNo X0.here hx rfl (hb hby d1_9) rfl (tlt hc9_1).2.2.2 ?_
        show Steps p.tables e below (s₁.setTop (mkF m 12 #[.val (.int p0)] [])) _
        refine XS.iloadN X0.here hx rfl (hb hby d1_12) rfl ?_
        show Steps p.tables e below (s₁.setTop (mkF m 13 #[.val (.int p0)] [(.int p0)])) _
        refine XS.bipush X0.here hx rfl (hb hby d1_13) ?_
        show Steps p.tables e below (s₁.setTop (mkF m 15 #[.val (.int p0)] [(.int (97 : Int32)), (.int p0)])) _
        by_cases hc15_2 : p0 < (97 : Int32)
        · refine XS.icmpYes X0.here hx rfl (pc0 := 15) (pc' := 28) rfl (hb hby d1_15) rfl (tlt hc15_2).1 (by decide) (by decide) ?_
          show Steps p.tables e below (s₁.setTop (mkF m 28 #[.val (.int p0)] [])) _
          refine XS.iconst X0.here hx rfl (hb hby d1_28) ?_
          show Steps p.tables e below (s₁.setTop (mkF m 29 #[.val (.int p0)] [(.int (0 : Int32))])) _
          have hf : (f_alpha p0) = (0 : Int32) := by unfold f_alpha; rw [if_neg hc3_0, if_pos hc9_1, if_pos hc15_2]
          rw [hf] at hr
          exact retN X0 hx (t := .boolean) Bd.returns (by simp) (hb hby d1_29) hr
        · refine XS.icmpNo X0.here hx rfl (hb hby d1_15) rfl (flt hc15_2).1 ?_
          show Steps p.tables e below (s₁.setTop (mkF m 18 #[.val (.int p0)] [])) _
          refine XS.iloadN X0.here hx rfl (hb hby d1_18) rfl ?_
          show Steps p.tables e below (s₁.setTop (mkF m 19 #[.val (.int p0)] [(.int p0)])) _
          refine XS.bipush X0.here hx rfl (hb hby d1_19) ?_
          show Steps p.tables e below (s₁.setTop (mkF m 21 #[.val (.int p0)] [(.int (122 : Int32)), (.int p0)])) _
          by_cases hc21_3 : (122 : Int32) < p0
          · refine XS.icmpYes X0.here hx rfl (pc0 := 21) (pc' := 28) rfl (hb hby d1_21) rfl (tlt hc21_3).2.2.1 (by decide) (by decide) ?_
            show Steps p.tables e below (s₁.setTop (mkF m 28 #[.val (.int p0)] [])) _
            refine XS.iconst X0.here hx rfl (hb hby d1_28) ?_
            show Steps p.tables e below (s₁.setTop (mkF m 29 #[.val (.int p0)] [(.int (0 : Int32))])) _
            have hf : (f_alpha p0) = (0 : Int32) := by unfold f_alpha; rw [if_neg hc3_0, if_pos hc9_1, if_neg hc15_2, if_pos hc21_3]
            rw [hf] at hr
            exact retN X0 hx (t := .boolean) Bd.returns (by simp) (hb hby d1_29) hr
          · refine XS.icmpNo X0.here hx rfl (hb hby d1_21) rfl (flt hc21_3).2.2.1 ?_
            show Steps p.tables e below (s₁.setTop (mkF m 24 #[.val (.int p0)] [])) _
            refine XS.iconst X0.here hx rfl (hb hby d1_24) ?_
            show Steps p.tables e below (s₁.setTop (mkF m 25 #[.val (.int p0)] [(.int (1 : Int32))])) _
            refine XS.goto X0.here hx rfl (pc0 := 25) (pc' := 29) rfl (hb hby d1_25) (by decide) (by decide) ?_
            show Steps p.tables e below (s₁.setTop (mkF m 29 #[.val (.int p0)] [(.int (1 : Int32))])) _
            have hf : (f_alpha p0) = (1 : Int32) := by unfold f_alpha; rw [if_neg hc3_0, if_pos hc9_1, if_neg hc15_2, if_neg hc21_3]
            rw [hf] at hr
            exact retN X0 hx (t := .boolean) Bd.returns (by simp) (hb hby d1_29) hr
      · refine XS.icmpYes X0.here hx rfl (pc0 := 9) (pc' := 24) rfl (hb hby d1_9) rfl (flt hc9_1).2.2.2 (by decide) (by decide) ?_
        show Steps p.tables e below (s₁.setTop (mkF m 24 #[.val (.int p0)] [])) _
        refine XS.iconst X0.here hx rfl (hb hby d1_24) ?_
        show Steps p.tables e below (s₁.setTop (mkF m 25 #[.val (.int p0)] [(.int (1 : Int32))])) _
        refine XS.goto X0.here hx rfl (pc0 := 25) (pc' := 29) rfl (hb hby d1_25) (by decide) (by decide) ?_
        show Steps p.tables e below (s₁.setTop (mkF m 29 #[.val (.int p0)] [(.int (1 : Int32))])) _
        have hf : (f_alpha p0) = (1 : Int32) := by unfold f_alpha; rw [if_neg hc3_0, if_neg hc9_1]
        rw [hf] at hr
        exact retN X0 hx (t := .boolean) Bd.returns (by simp) (hb hby d1_29) hr
  · show Q_alpha Z p0 h0 n0 _ s₁.heap _
    rw [e0]
    exact ⟨rfl, N0, rfl⟩
theorem d2_0 : decode method_2_code 0 = .ok (.iload_n 0, 1) := by decide +kernel
theorem d2_1 : decode method_2_code 1 = .ok (.bipush 32, 2) := by decide +kernel
theorem d2_3 : decode method_2_code 3 = .ok (.ior, 1) := by decide +kernel
theorem d2_4 : decode method_2_code 4 = .ok (.istore_n 1, 1) := by decide +kernel
theorem d2_5 : decode method_2_code 5 = .ok (.iload_n 1, 1) := by decide +kernel
theorem d2_6 : decode method_2_code 6 = .ok (.bipush 97, 2) := by decide +kernel
theorem d2_8 : decode method_2_code 8 = .ok (.if_icmp .lt 13, 3) := by decide +kernel
theorem d2_11 : decode method_2_code 11 = .ok (.iload_n 1, 1) := by decide +kernel
theorem d2_12 : decode method_2_code 12 = .ok (.bipush 122, 2) := by decide +kernel
theorem d2_14 : decode method_2_code 14 = .ok (.if_icmp .gt 7, 3) := by decide +kernel
theorem d2_17 : decode method_2_code 17 = .ok (.iconst 1, 1) := by decide +kernel
theorem d2_18 : decode method_2_code 18 = .ok (.goto 4, 3) := by decide +kernel
theorem d2_21 : decode method_2_code 21 = .ok (.iconst 0, 1) := by decide +kernel
theorem d2_22 : decode method_2_code 22 = .ok (.ireturn, 1) := by decide +kernel
theorem pn_letter : plainName "com/example/wharfline/wharfline/http/HttpSyntaxIsAlphaPinLaw" = true := by first | (simp [plainName, overriddenIn]; done) | decide +kernel
theorem ef_letter (m : MethodId) (p0 : Int32) : entryFrame m #[(.int p0)] 2 = mkF m 0 #[.val (.int p0), .unset] [] := by first | (simp [entryFrame, mkF, argsToLocals, Value.category]; done) | rfl
def f_letter (p0 : Int32) : Int32 := (if (p0 ||| (32 : Int32)) < (97 : Int32) then (0 : Int32) else (if (122 : Int32) < (p0 ||| (32 : Int32)) then (0 : Int32) else (1 : Int32)))
def Q_letter (Z : State) (p0 : Int32) (h0 : Heap) (n0 : Nat) (v : Option Value) (h : Heap) (L : List Loc) : Prop := v = some (.int (f_letter p0)) ∧ Fr n0 L ∧ h = h0
set_option maxRecDepth 65536 in
set_option maxHeartbeats 40000000 in
theorem rm_letter (l : Launch) (Z : State) (a0 : Array Value) (hw : ∀ d ∈ tables_1, d.before a0 Z = true) (ws : List Jvm.Cond) (p0 : Int32) (h0 : Heap) (n0 : Nat) (Z0 : n0 ≤ h0.size) :
    MetFree l (⟨"com/example/wharfline/wharfline/http/HttpSyntaxIsAlphaPinLaw", "letter", "(I)Z"⟩ : MethodName) (head1 (Jvm.Cond.code (⟨"com/example/wharfline/wharfline/http/HttpSyntaxIsAlphaPinLaw", "letter", "(I)Z"⟩ : MethodName) method_2_code 2 (some .boolean) :: ws) ({ frames := 0, cells := 0, slots := 0, locals := 0 } : Room)) (fun a U => a = #[(.int p0)] ∧ Z.Warmed39 U.vm ∧ U.heap = h0) (fun _ _ _ _ _ => True) (fun _ U o U' => ∃ v L, o = .returned v ∧ Q_letter Z p0 h0 n0 v U'.heap L ∧ FrameEnd U o U' L ({ frames := 0, cells := 0, slots := 0, locals := 0 } : Room).cells ({ frames := 0, cells := 0, slots := 0, locals := 0 } : Room).slots) := by
  refine MetFree.of_bodySF (plainFor_of_name pn_letter) hisR ?_
  intro p e s m args below meth c s₁ Bd hml0 hP hK
  obtain ⟨rfl, hZ, hh⟩ := hP
  have hx := Bd.exec
  have hby := Bd.bytes
  have hml : c.maxLocals = 2 := hml0
  have hown : s.vm.findClass "com/example/wharfline/wharfline/http/HttpSyntaxIsAlphaPinLaw" = some m.cls := findClass_of_methodNamed Bd.named
  have hnm := (name_of_methodNamed Bd.named Bd.method).1
  have X0 : Stand p l e ({ frames := 0, cells := 0, slots := 0, locals := 0 } : Room) s m #[(.int p0)] below meth c s₁ [] 0 0 := Stand.of_body Bd
  have e0 : s₁.heap = h0 := by rw [← hh, Bd.state]; rfl
  have N0 := Fr.nil n0
  have pre0 : ∀ t, Steps p.tables e below (s₁.setTop (mkF m 0 #[.val (.int p0), .unset] [])) t → Steps p.tables e below (s₁.setTop (entryFrame m #[(.int p0)] 2)) t := fun t k => castTop (ef_letter m p0) k
  obtain ⟨fs, hr, hrun, hended, hW, hsame⟩ := X0.leave (v := some (.int (f_letter p0))) (fun h => by rw [Bd.returns] at h; cases h)
  refine ⟨_, _, pre0 _ ?_, hrun, hended, _, _, rfl, ?_, ⟨_, rfl⟩, hW, hsame.mono (by decide) (by decide)⟩
  · show Steps p.tables e below (s₁.setTop (mkF m 0 #[.val (.int p0), .unset] [])) _
    refine XS.iloadN X0.here hx rfl (hb hby d2_0) rfl ?_
    show Steps p.tables e below (s₁.setTop (mkF m 1 #[.val (.int p0), .unset] [(.int p0)])) _
    refine XS.bipush X0.here hx rfl (hb hby d2_1) ?_
    show Steps p.tables e below (s₁.setTop (mkF m 3 #[.val (.int p0), .unset] [(.int (32 : Int32)), (.int p0)])) _
    refine XS.ior X0.here hx rfl (hb hby d2_3) rfl ?_
    show Steps p.tables e below (s₁.setTop (mkF m 4 #[.val (.int p0), .unset] [(.int (p0 ||| (32 : Int32)))])) _
    refine XS.istoreN X0.here hx rfl (hb hby d2_4) rfl (l' := #[.val (.int p0), .val (.int (p0 ||| (32 : Int32)))]) rfl ?_
    show Steps p.tables e below (s₁.setTop (mkF m 5 #[.val (.int p0), .val (.int (p0 ||| (32 : Int32)))] [])) _
    refine XS.iloadN X0.here hx rfl (hb hby d2_5) rfl ?_
    show Steps p.tables e below (s₁.setTop (mkF m 6 #[.val (.int p0), .val (.int (p0 ||| (32 : Int32)))] [(.int (p0 ||| (32 : Int32)))])) _
    refine XS.bipush X0.here hx rfl (hb hby d2_6) ?_
    show Steps p.tables e below (s₁.setTop (mkF m 8 #[.val (.int p0), .val (.int (p0 ||| (32 : Int32)))] [(.int (97 : Int32)), (.int (p0 ||| (32 : Int32)))])) _
    by_cases hc8_0 : (p0 ||| (32 : Int32)) < (97 : Int32)
    · refine XS.icmpYes X0.here hx rfl (pc0 := 8) (pc' := 21) rfl (hb hby d2_8) rfl (tlt hc8_0).1 (by decide) (by decide) ?_
      show Steps p.tables e below (s₁.setTop (mkF m 21 #[.val (.int p0), .val (.int (p0 ||| (32 : Int32)))] [])) _
      refine XS.iconst X0.here hx rfl (hb hby d2_21) ?_
      show Steps p.tables e below (s₁.setTop (mkF m 22 #[.val (.int p0), .val (.int (p0 ||| (32 : Int32)))] [(.int (0 : Int32))])) _
      have hf : (f_letter p0) = (0 : Int32) := by unfold f_letter; rw [if_pos hc8_0]
      rw [hf] at hr
      exact retN X0 hx (t := .boolean) Bd.returns (by simp) (hb hby d2_22) hr
    · refine XS.icmpNo X0.here hx rfl (hb hby d2_8) rfl (flt hc8_0).1 ?_
      show Steps p.tables e below (s₁.setTop (mkF m 11 #[.val (.int p0), .val (.int (p0 ||| (32 : Int32)))] [])) _
      refine XS.iloadN X0.here hx rfl (hb hby d2_11) rfl ?_
      show Steps p.tables e below (s₁.setTop (mkF m 12 #[.val (.int p0), .val (.int (p0 ||| (32 : Int32)))] [(.int (p0 ||| (32 : Int32)))])) _
      refine XS.bipush X0.here hx rfl (hb hby d2_12) ?_
      show Steps p.tables e below (s₁.setTop (mkF m 14 #[.val (.int p0), .val (.int (p0 ||| (32 : Int32)))] [(.int (122 : Int32)), (.int (p0 ||| (32 : Int32)))])) _
      by_cases hc14_1 : (122 : Int32) < (p0 ||| (32 : Int32))
      · refine XS.icmpYes X0.here hx rfl (pc0 := 14) (pc' := 21) rfl (hb hby d2_14) rfl (tlt hc14_1).2.2.1 (by decide) (by decide) ?_
        show Steps p.tables e below (s₁.setTop (mkF m 21 #[.val (.int p0), .val (.int (p0 ||| (32 : Int32)))] [])) _
        refine XS.iconst X0.here hx rfl (hb hby d2_21) ?_
        show Steps p.tables e below (s₁.setTop (mkF m 22 #[.val (.int p0), .val (.int (p0 ||| (32 : Int32)))] [(.int (0 : Int32))])) _
        have hf : (f_letter p0) = (0 : Int32) := by unfold f_letter; rw [if_neg hc8_0, if_pos hc14_1]
        rw [hf] at hr
        exact retN X0 hx (t := .boolean) Bd.returns (by simp) (hb hby d2_22) hr
      · refine XS.icmpNo X0.here hx rfl (hb hby d2_14) rfl (flt hc14_1).2.2.1 ?_
        show Steps p.tables e below (s₁.setTop (mkF m 17 #[.val (.int p0), .val (.int (p0 ||| (32 : Int32)))] [])) _
        refine XS.iconst X0.here hx rfl (hb hby d2_17) ?_
        show Steps p.tables e below (s₁.setTop (mkF m 18 #[.val (.int p0), .val (.int (p0 ||| (32 : Int32)))] [(.int (1 : Int32))])) _
        refine XS.goto X0.here hx rfl (pc0 := 18) (pc' := 22) rfl (hb hby d2_18) (by decide) (by decide) ?_
        show Steps p.tables e below (s₁.setTop (mkF m 22 #[.val (.int p0), .val (.int (p0 ||| (32 : Int32)))] [(.int (1 : Int32))])) _
        have hf : (f_letter p0) = (1 : Int32) := by unfold f_letter; rw [if_neg hc8_0, if_neg hc14_1]
        rw [hf] at hr
        exact retN X0 hx (t := .boolean) Bd.returns (by simp) (hb hby d2_22) hr
  · show Q_letter Z p0 h0 n0 _ s₁.heap _
    rw [e0]
    exact ⟨rfl, N0, rfl⟩
theorem own_orN (n : Nat) : n ||| 32 = n + 32 - 32 * (n / 32 % 2) := by
  have hr : ∀ r : Fin 64, r.val ||| 32 = r.val + 32 - 32 * (r.val / 32 % 2) ∧ r.val ||| 32 < 2 ^ 6 := by decide
  have hl : n % 64 < 64 := Nat.mod_lt _ (by decide)
  have h1 : 2 ^ 6 * (n / 64) + n % 64 = n := by omega
  have h2 : 2 ^ 6 * (n / 64) + n % 64 = 2 ^ 6 * (n / 64) ||| n % 64 := Nat.two_pow_add_eq_or_of_lt hl _
  have q := hr ⟨n % 64, hl⟩
  have h3 : 2 ^ 6 * (n / 64) + (n % 64 ||| 32) = 2 ^ 6 * (n / 64) ||| (n % 64 ||| 32) := Nat.two_pow_add_eq_or_of_lt q.2 _
  have h4 : n ||| 32 = 2 ^ 6 * (n / 64) + (n % 64 ||| 32) := by rw [h3, ← Nat.or_assoc, ← h2, h1]
  have h5 : n % 64 ||| 32 = n % 64 + 32 - 32 * (n % 64 / 32 % 2) := q.1
  rw [h4, h5]
  omega
theorem own_or (x : Int32) : (x ||| 32).toInt = x.toInt + 32 - 32 * ((x.toInt / 32) % 2) := by
  have e : (x ||| 32).toBitVec.toNat = x.toBitVec.toNat ||| 32 := by simp [Int32.toBitVec_or, BitVec.toNat_or]
  rw [own_orN] at e
  have h1 : (x ||| 32).toInt = (x ||| 32).toBitVec.toInt := rfl
  have h2 : x.toInt = x.toBitVec.toInt := rfl
  rw [h1, h2, BitVec.toInt_eq_toNat_cond, BitVec.toInt_eq_toNat_cond, e]
  have hb := x.toBitVec.isLt
  split <;> split <;> omega
theorem own_eq (n : Int32) : f_alpha n = f_letter n := by
  have h := own_or n
  unfold f_alpha f_letter
  generalize (n ||| (32 : Int32)) = y at *
  repeat' split
  all_goals first
    | rfl
    | (exfalso; simp only [Int32.lt_iff_toInt_lt, ← Int32.toInt_inj, Int32.reduceToInt] at *; omega)

theorem pn_law : plainName "com/example/wharfline/wharfline/http/HttpSyntaxIsAlphaPinLaw" = true := by first | (simp [plainName, overriddenIn]; done) | decide +kernel
theorem pd_law_0 : parseMethodDescriptor "(I)Z" = some ⟨[.int], some .boolean⟩ := by decide +kernel
theorem ef_law (m : MethodId) (p0 : Int32) (p1 : Int32) : entryFrame m #[(.int p0), (.int p1)] maxLocals = mkF m 0 #[.val (.int p0), .val (.int p1), .unset] [] := by first | (simp [entryFrame, mkF, argsToLocals, Value.category, maxLocals]; done) | rfl
def Q_law (Z : State) (p0 : Int32) (p1 : Int32) (h0 : Heap) (n0 : Nat) (v : Option Value) (h : Heap) (L : List Loc) : Prop := v = some (.int (1 : Int32)) ∧ Fr n0 L
set_option maxRecDepth 65536 in
set_option maxHeartbeats 40000000 in
theorem rm_law (l : Launch) (Z : State) (a0 : Array Value) (hw : ∀ d ∈ tables_1, d.before a0 Z = true) (ws : List Jvm.Cond) (p0 : Int32) (p1 : Int32) (h0 : Heap) (n0 : Nat) (Z0 : n0 ≤ h0.size) :
    MetFree l x (head1 (Jvm.Cond.code x code maxLocals ret :: ws) room_1) (fun a U => a = #[(.int p0), (.int p1)] ∧ Z.Warmed39 U.vm ∧ U.heap = h0) (fun _ _ _ _ _ => True) (fun _ U o U' => ∃ v L, o = .returned v ∧ Q_law Z p0 p1 h0 n0 v U'.heap L ∧ FrameEnd U o U' L room_1.cells room_1.slots) := by
  refine MetFree.of_bodySF (plainFor_of_name pn_law) hisR ?_
  intro p e s m args below meth c s₁ Bd hml0 hP hK
  obtain ⟨rfl, hZ, hh⟩ := hP
  have hx := Bd.exec
  have hby := Bd.bytes
  have hml : c.maxLocals = 3 := hml0
  have hown : s.vm.findClass "com/example/wharfline/wharfline/http/HttpSyntaxIsAlphaPinLaw" = some m.cls := findClass_of_methodNamed Bd.named
  have hnm := (name_of_methodNamed Bd.named Bd.method).1
  have X0 : Stand p l e room_1 s m #[(.int p0), (.int p1)] below meth c s₁ [] 0 0 := Stand.of_body Bd
  have e0 : s₁.heap = h0 := by rw [← hh, Bd.state]; rfl
  have N0 := Fr.nil n0
  have pre0 : ∀ t, Steps p.tables e below (s₁.setTop (mkF m 0 #[.val (.int p0), .val (.int p1), .unset] [])) t → Steps p.tables e below (s₁.setTop (entryFrame m #[(.int p0), (.int p1)] maxLocals)) t := fun t k => castTop (ef_law m p0 p1) k
  obtain ⟨_, _, ⟨Tr1, Lr1, kr1, nr1⟩, -, Xr1, ⟨Lcr1, hQr1, lr1, yr1, zr1⟩, str1⟩ := Jvm.LawKit.callS X0 hx (y := (⟨"com/example/wharfline/wharfline/http/HttpSyntax", "isAlpha", "(I)Z"⟩ : MethodName)) hown (mvT hZ (hw _ (List.mem_of_getElem? (i := 1) rfl))) (mvT hZ (hw _ (List.mem_of_getElem? (i := 2) rfl))) (mvT hZ (hw _ (List.mem_of_getElem? (i := 3) rfl))) (mvT hZ (hw _ (List.mem_of_getElem? (i := 4) rfl))) (by decide) (backOf (W := 0) (rm_alpha l Z a0 hw [] p0  h0 n0 Z0 ) hZ (hw _ (List.mem_of_getElem? (i := 4) rfl)) (hw _ (List.mem_of_getElem? (i := 3) rfl)) (by decide) (by decide)) (g := (mkF m 12 #[.val (.int p0), .val (.int p1), .val (.int ((64 : Int32) + ((p1 &&& (2147483647 : Int32)) % (64 : Int32))))] [(.int p0)])) rfl (by rw [hml]; rfl) (argsL := [(.int p0)]) (rest := []) (lenOf pd_law_0 rfl) rfl (by show 2 * 0 + _ ≤ _; exact Nat.le_of_eq rfl) (hb hby at_12) (fun _ _ => ⟨rfl, e0, (by decide : 0 + 0 ≤ _), (by decide : 0 + 0 ≤ _)⟩)
  dsimp only [Pt.U, Pt.locs, Pt.cells, Pt.slots] at Xr1 lr1 yr1 zr1 str1 hQr1
  subst lr1 yr1 zr1
  obtain ⟨rfl, Nr1q, er1⟩ := hQr1
  have Nr1 := Fr.app N0 Nr1q
  obtain ⟨_, _, ⟨Tr2, Lr2, kr2, nr2⟩, -, Xr2, ⟨Lcr2, hQr2, lr2, yr2, zr2⟩, str2⟩ := Jvm.LawKit.callS Xr1 hx (y := (⟨"com/example/wharfline/wharfline/http/HttpSyntaxIsAlphaPinLaw", "letter", "(I)Z"⟩ : MethodName)) hown (mvT hZ (hw _ (List.mem_of_getElem? (i := 5) rfl))) (mvT hZ (hw _ (List.mem_of_getElem? (i := 6) rfl))) (mvT hZ (hw _ (List.mem_of_getElem? (i := 7) rfl))) (mvT hZ (hw _ (List.mem_of_getElem? (i := 8) rfl))) (by decide) (backOf (W := 1) (rm_letter l Z a0 hw [] p0  h0 n0 Z0 ) hZ (hw _ (List.mem_of_getElem? (i := 8) rfl)) (hw _ (List.mem_of_getElem? (i := 7) rfl)) (by decide) (by decide)) (g := (mkF m 16 #[.val (.int p0), .val (.int p1), .val (.int ((64 : Int32) + ((p1 &&& (2147483647 : Int32)) % (64 : Int32))))] [(.int p0), (.int (f_alpha p0))])) rfl (by rw [hml]; rfl) (argsL := [(.int p0)]) (rest := [(.int (f_alpha p0))]) (lenOf pd_law_0 rfl) rfl (by show 2 * 0 + _ ≤ _; exact Nat.le_of_eq rfl) (hb hby at_16) (fun _ _ => ⟨rfl, er1, (by decide : 0 + 0 ≤ _), (by decide : 0 + 0 ≤ _)⟩)
  dsimp only [Pt.U, Pt.locs, Pt.cells, Pt.slots] at Xr2 lr2 yr2 zr2 str2 hQr2
  subst lr2 yr2 zr2
  obtain ⟨rfl, Nr2q, er2⟩ := hQr2
  have Nr2 := Fr.app Nr1 Nr2q
  obtain ⟨_, _, ⟨Tr3, Lr3, kr3, nr3⟩, -, Xr3, ⟨Lcr3, hQr3, lr3, yr3, zr3⟩, str3⟩ := Jvm.LawKit.callS Xr2 hx (y := (⟨"com/example/wharfline/wharfline/http/HttpSyntax", "isAlpha", "(I)Z"⟩ : MethodName)) hown (mvT hZ (hw _ (List.mem_of_getElem? (i := 1) rfl))) (mvT hZ (hw _ (List.mem_of_getElem? (i := 2) rfl))) (mvT hZ (hw _ (List.mem_of_getElem? (i := 3) rfl))) (mvT hZ (hw _ (List.mem_of_getElem? (i := 4) rfl))) (by decide) (backOf (W := 0) (rm_alpha l Z a0 hw [] ((64 : Int32) + ((p1 &&& (2147483647 : Int32)) % (64 : Int32)))  h0 n0 Z0 ) hZ (hw _ (List.mem_of_getElem? (i := 4) rfl)) (hw _ (List.mem_of_getElem? (i := 3) rfl)) (by decide) (by decide)) (g := (mkF m 23 #[.val (.int p0), .val (.int p1), .val (.int ((64 : Int32) + ((p1 &&& (2147483647 : Int32)) % (64 : Int32))))] [(.int ((64 : Int32) + ((p1 &&& (2147483647 : Int32)) % (64 : Int32))))])) rfl (by rw [hml]; rfl) (argsL := [(.int ((64 : Int32) + ((p1 &&& (2147483647 : Int32)) % (64 : Int32))))]) (rest := []) (lenOf pd_law_0 rfl) rfl (by show 2 * 0 + _ ≤ _; exact Nat.le_of_eq rfl) (hb hby at_23) (fun _ _ => ⟨rfl, er2, (by decide : 0 + 0 ≤ _), (by decide : 0 + 0 ≤ _)⟩)
  dsimp only [Pt.U, Pt.locs, Pt.cells, Pt.slots] at Xr3 lr3 yr3 zr3 str3 hQr3
  subst lr3 yr3 zr3
  obtain ⟨rfl, Nr3q, er3⟩ := hQr3
  have Nr3 := Fr.app Nr2 Nr3q
  obtain ⟨_, _, ⟨Tr4, Lr4, kr4, nr4⟩, -, Xr4, ⟨Lcr4, hQr4, lr4, yr4, zr4⟩, str4⟩ := Jvm.LawKit.callS Xr3 hx (y := (⟨"com/example/wharfline/wharfline/http/HttpSyntaxIsAlphaPinLaw", "letter", "(I)Z"⟩ : MethodName)) hown (mvT hZ (hw _ (List.mem_of_getElem? (i := 5) rfl))) (mvT hZ (hw _ (List.mem_of_getElem? (i := 6) rfl))) (mvT hZ (hw _ (List.mem_of_getElem? (i := 7) rfl))) (mvT hZ (hw _ (List.mem_of_getElem? (i := 8) rfl))) (by decide) (backOf (W := 1) (rm_letter l Z a0 hw [] ((64 : Int32) + ((p1 &&& (2147483647 : Int32)) % (64 : Int32)))  h0 n0 Z0 ) hZ (hw _ (List.mem_of_getElem? (i := 8) rfl)) (hw _ (List.mem_of_getElem? (i := 7) rfl)) (by decide) (by decide)) (g := (mkF m 27 #[.val (.int p0), .val (.int p1), .val (.int ((64 : Int32) + ((p1 &&& (2147483647 : Int32)) % (64 : Int32))))] [(.int ((64 : Int32) + ((p1 &&& (2147483647 : Int32)) % (64 : Int32)))), (.int (f_alpha ((64 : Int32) + ((p1 &&& (2147483647 : Int32)) % (64 : Int32)))))])) rfl (by rw [hml]; rfl) (argsL := [(.int ((64 : Int32) + ((p1 &&& (2147483647 : Int32)) % (64 : Int32))))]) (rest := [(.int (f_alpha ((64 : Int32) + ((p1 &&& (2147483647 : Int32)) % (64 : Int32)))))]) (lenOf pd_law_0 rfl) rfl (by show 2 * 0 + _ ≤ _; exact Nat.le_of_eq rfl) (hb hby at_27) (fun _ _ => ⟨rfl, er3, (by decide : 0 + 0 ≤ _), (by decide : 0 + 0 ≤ _)⟩)
  dsimp only [Pt.U, Pt.locs, Pt.cells, Pt.slots] at Xr4 lr4 yr4 zr4 str4 hQr4
  subst lr4 yr4 zr4
  obtain ⟨rfl, Nr4q, er4⟩ := hQr4
  have Nr4 := Fr.app Nr3 Nr4q
  obtain ⟨fs, hr, hrun, hended, hW, hsame⟩ := Xr4.leave (v := some (.int (1 : Int32))) (fun h => by rw [Bd.returns] at h; cases h)
  refine ⟨_, _, pre0 _ ?_, hrun, hended, _, _, rfl, ?_, ⟨_, rfl⟩, hW, hsame.mono (by decide) (by decide)⟩
  · show Steps p.tables e below (s₁.setTop (mkF m 0 #[.val (.int p0), .val (.int p1), .unset] [])) _
    refine XS.bipush X0.here hx rfl (hb hby at_0) ?_
    show Steps p.tables e below (s₁.setTop (mkF m 2 #[.val (.int p0), .val (.int p1), .unset] [(.int (64 : Int32))])) _
    refine XS.iloadN X0.here hx rfl (hb hby at_2) rfl ?_
    show Steps p.tables e below (s₁.setTop (mkF m 3 #[.val (.int p0), .val (.int p1), .unset] [(.int p1), (.int (64 : Int32))])) _
    refine X0.ldcInt hx hown (mvT hZ (hw _ (List.mem_of_getElem? (i := 0) rfl))) (g := (mkF m 3 #[.val (.int p0), .val (.int p1), .unset] [(.int p1), (.int (64 : Int32))])) rfl (hb hby at_3) _ ?_
    show Steps p.tables e below (s₁.setTop (mkF m 5 #[.val (.int p0), .val (.int p1), .unset] [(.int (2147483647 : Int32)), (.int p1), (.int (64 : Int32))])) _
    refine XS.iand X0.here hx rfl (hb hby at_5) rfl ?_
    show Steps p.tables e below (s₁.setTop (mkF m 6 #[.val (.int p0), .val (.int p1), .unset] [(.int (p1 &&& (2147483647 : Int32))), (.int (64 : Int32))])) _
    refine XS.bipush X0.here hx rfl (hb hby at_6) ?_
    show Steps p.tables e below (s₁.setTop (mkF m 8 #[.val (.int p0), .val (.int p1), .unset] [(.int (64 : Int32)), (.int (p1 &&& (2147483647 : Int32))), (.int (64 : Int32))])) _
    refine Jvm.RoadKit.iremM X0 hx rfl (hb hby at_8) rfl (by decide) ?_
    show Steps p.tables e below (s₁.setTop (mkF m 9 #[.val (.int p0), .val (.int p1), .unset] [(.int ((p1 &&& (2147483647 : Int32)) % (64 : Int32))), (.int (64 : Int32))])) _
    refine XS.iadd X0.here hx rfl (hb hby at_9) rfl ?_
    show Steps p.tables e below (s₁.setTop (mkF m 10 #[.val (.int p0), .val (.int p1), .unset] [(.int ((64 : Int32) + ((p1 &&& (2147483647 : Int32)) % (64 : Int32))))])) _
    refine XS.istoreN X0.here hx rfl (hb hby at_10) rfl (l' := #[.val (.int p0), .val (.int p1), .val (.int ((64 : Int32) + ((p1 &&& (2147483647 : Int32)) % (64 : Int32))))]) rfl ?_
    show Steps p.tables e below (s₁.setTop (mkF m 11 #[.val (.int p0), .val (.int p1), .val (.int ((64 : Int32) + ((p1 &&& (2147483647 : Int32)) % (64 : Int32))))] [])) _
    refine XS.iloadN X0.here hx rfl (hb hby at_11) rfl ?_
    show Steps p.tables e below (s₁.setTop (mkF m 12 #[.val (.int p0), .val (.int p1), .val (.int ((64 : Int32) + ((p1 &&& (2147483647 : Int32)) % (64 : Int32))))] [(.int p0)])) _
    refine str1 _ ?_
    show Steps p.tables e below (Tr1.setTop (mkF m 15 #[.val (.int p0), .val (.int p1), .val (.int ((64 : Int32) + ((p1 &&& (2147483647 : Int32)) % (64 : Int32))))] [(.int (f_alpha p0))])) _
    refine XS.iloadN Xr1.here hx rfl (hb hby at_15) rfl ?_
    show Steps p.tables e below (Tr1.setTop (mkF m 16 #[.val (.int p0), .val (.int p1), .val (.int ((64 : Int32) + ((p1 &&& (2147483647 : Int32)) % (64 : Int32))))] [(.int p0), (.int (f_alpha p0))])) _
    refine str2 _ ?_
    show Steps p.tables e below (Tr2.setTop (mkF m 19 #[.val (.int p0), .val (.int p1), .val (.int ((64 : Int32) + ((p1 &&& (2147483647 : Int32)) % (64 : Int32))))] [(.int (f_letter p0)), (.int (f_alpha p0))])) _
    refine XS.icmpNo Xr2.here hx rfl (hb hby at_19) rfl (teq (own_eq p0)).2 ?_
    show Steps p.tables e below (Tr2.setTop (mkF m 22 #[.val (.int p0), .val (.int p1), .val (.int ((64 : Int32) + ((p1 &&& (2147483647 : Int32)) % (64 : Int32))))] [])) _
    refine XS.iloadN Xr2.here hx rfl (hb hby at_22) rfl ?_
    show Steps p.tables e below (Tr2.setTop (mkF m 23 #[.val (.int p0), .val (.int p1), .val (.int ((64 : Int32) + ((p1 &&& (2147483647 : Int32)) % (64 : Int32))))] [(.int ((64 : Int32) + ((p1 &&& (2147483647 : Int32)) % (64 : Int32))))])) _
    refine str3 _ ?_
    show Steps p.tables e below (Tr3.setTop (mkF m 26 #[.val (.int p0), .val (.int p1), .val (.int ((64 : Int32) + ((p1 &&& (2147483647 : Int32)) % (64 : Int32))))] [(.int (f_alpha ((64 : Int32) + ((p1 &&& (2147483647 : Int32)) % (64 : Int32)))))])) _
    refine XS.iloadN Xr3.here hx rfl (hb hby at_26) rfl ?_
    show Steps p.tables e below (Tr3.setTop (mkF m 27 #[.val (.int p0), .val (.int p1), .val (.int ((64 : Int32) + ((p1 &&& (2147483647 : Int32)) % (64 : Int32))))] [(.int ((64 : Int32) + ((p1 &&& (2147483647 : Int32)) % (64 : Int32)))), (.int (f_alpha ((64 : Int32) + ((p1 &&& (2147483647 : Int32)) % (64 : Int32)))))])) _
    refine str4 _ ?_
    show Steps p.tables e below (Tr4.setTop (mkF m 30 #[.val (.int p0), .val (.int p1), .val (.int ((64 : Int32) + ((p1 &&& (2147483647 : Int32)) % (64 : Int32))))] [(.int (f_letter ((64 : Int32) + ((p1 &&& (2147483647 : Int32)) % (64 : Int32))))), (.int (f_alpha ((64 : Int32) + ((p1 &&& (2147483647 : Int32)) % (64 : Int32)))))])) _
    refine XS.icmpNo Xr4.here hx rfl (hb hby at_30) rfl (teq (own_eq ((64 : Int32) + ((p1 &&& (2147483647 : Int32)) % (64 : Int32))))).2 ?_
    show Steps p.tables e below (Tr4.setTop (mkF m 33 #[.val (.int p0), .val (.int p1), .val (.int ((64 : Int32) + ((p1 &&& (2147483647 : Int32)) % (64 : Int32))))] [])) _
    refine XS.iconst Xr4.here hx rfl (hb hby at_33) ?_
    show Steps p.tables e below (Tr4.setTop (mkF m 34 #[.val (.int p0), .val (.int p1), .val (.int ((64 : Int32) + ((p1 &&& (2147483647 : Int32)) % (64 : Int32))))] [(.int (1 : Int32))])) _
    refine XS.goto Xr4.here hx rfl (pc0 := 34) (pc' := 38) rfl (hb hby at_34) (by decide) (by decide) ?_
    show Steps p.tables e below (Tr4.setTop (mkF m 38 #[.val (.int p0), .val (.int p1), .val (.int ((64 : Int32) + ((p1 &&& (2147483647 : Int32)) % (64 : Int32))))] [(.int (1 : Int32))])) _
    exact retN Xr4 hx (t := .boolean) Bd.returns (by simp) (hb hby at_38) hr
  · show Q_law Z p0 p1 h0 n0 _ Tr4.heap _
    rw [er4]
    exact ⟨rfl, Nr4⟩
set_option maxRecDepth 65536 in
set_option maxHeartbeats 40000000 in
theorem comes_1 {Post : Tables → Env → Array Value → State → Outcome → State → Prop} (hpost : ∀ tb e args s v u, (limb_1_1.after args s (.returned v) u = true ∧ limb_1_2.after args s (.returned v) u = true ∧ True) → FrameEnd s (.returned v) u (Jvm.fieldLocs frame_1_writes args s ++ Jvm.arrayLocs frame_1_arrays args s ++ Jvm.staticLocs frame_1_statics s) 0 0 → Post tb e args s (.returned v) u) :
    ArmFor flags0 classFile x code maxLocals ret World_1 tables_1 room_1 Calls_1 rest_1 Pre_1 Post := by
  intro l hfl _ _ p e ha hc hk s m args below hf hA hF happ hP
  obtain ⟨hcalls, hrest, hpre⟩ := hP
  obtain ⟨-, -, -, hnamed, -, -, -, hat⟩ := (Spec.applies_iff hf).mp happ
  obtain ⟨hg, hn⟩ := and_e (Cond.before_iff.mp (show (Jvm.Cond.and given_1 narrow_1).before args s = true from hpre))
  obtain ⟨hcount, hq0⟩ := and_e hg
  obtain ⟨ha0, hq1⟩ := and_e hq0
  have ha1 := hq1
  obtain ⟨w0, w1, rfl⟩ : ∃ w0 w1 : Value, args = #[w0, w1] := by
    have hs : args.size = 2 := by simpa [Cond.value, given_1] using hcount
    obtain ⟨L⟩ := args
    match L, hs with
    | [w0, w1], _ => exact ⟨w0, w1, rfl⟩
  have hw := fun d (hd : d ∈ tables_1) => atoms_spec (ws := Jvm.Cond.code x code maxLocals ret :: tables_1) hat d (List.mem_cons_of_mem _ hd)
  have hfit : Fit s := fun {y c} hc i hi => by
    obtain ⟨ha, rfl⟩ := Array.getElem?_eq_some_iff.mp hc
    have q := List.all_eq_true.mp ((Array.all_eq_true_iff_forall_mem.mp hF) _ (Array.getElem_mem ha)) i (List.mem_range.mpr hi)
    simpa [Array.getElem?_eq_getElem hi] using q
  obtain ⟨i0, ei0⟩ := is_v ha0
  obtain rfl : w0 = (.int i0) := Option.some.inj ei0
  obtain ⟨i1, ei1⟩ := is_v ha1
  obtain rfl : w1 = (.int i1) := Option.some.inj ei1
  obtain ⟨n, o, h1, h2, h3, _, L, rfl, ⟨rfl, N⟩, hq⟩ := rm_law l s _ hw tables_1 i0 i1  s.heap s.heap.size (Nat.le_refl _)  p e ha hc hk s m _ below hf ((Spec.applies_iff_loose hf).mp happ).1 ⟨rfl, State.Warmed39.refl s, rfl⟩ trivial
  refine ⟨n, _, h1, h2, h3, hpost _ _ _ _ _ _ ⟨Cond.after_iff.mpr rfl, Cond.after_iff.mpr (eq_i res_at (Term.int_eval (1)) rfl), trivial⟩ ⟨hq.1, hq.2.1, (hq.2.2.sift fun y hy => Or.inr (N y hy)).mono (by decide) (by decide)⟩⟩
theorem main_1_1 : Claimed_1_1 := comes_1 fun _ _ _ _ _ _ h hF => ⟨h.1, hF⟩
theorem main_1_2 : Claimed_1_2 := comes_1 fun _ _ _ _ _ _ h hF => ⟨h.2.1, hF⟩
end Jvm.Pilot.@@N@@
namespace Jvm.Pilot.@@N@@
open Jvm Jvm.ClassFile Sem Op Lib Jvm.Free Jvm.Stand Jvm.Pilot.@@N@@.Jvm.D
/-! MADE BY PROGRAM (witnessworld.py) out of the Statement's table words and the real class files: 9 classes; the members and pool entries that the words name. The judged class is class 1, her method 2. -/
namespace start1
open Jvm.ClassFile
def u (s : String) : CpInfo := .utf8 (stringToUtf16 s)
/-- a pool by its gaps: so many unusable entries, then the entry; so many at the end -/
def gap : Nat → List CpInfo → List CpInfo
  | 0, r => r
  | n + 1, r => .unusable :: gap n r
def poolList (es : List (Nat × CpInfo)) (last : Nat) : List CpInfo := es.foldr (fun e r => gap e.1 (e.2 :: r)) (gap last [])
def pool (es : List (Nat × CpInfo)) (last : Nat) : Array CpInfo := ⟨poolList es last⟩
def fileOf (pool : Array CpInfo) (this : Nat) (attrs : Array Attribute := #[]) (ms : Array MethodInfo := #[]) (fl : Nat := 33) (sup : Nat := 0) (ifs : Array Nat := #[]) (fds : Array FieldInfo := #[]) : ClassFile where
  minorVersion := 0
  majorVersion := 65
  constantPool := pool
  accessFlags := fl
  thisClass := this
  superClass := sup
  interfaces := ifs
  fields := fds
  methods := ms
  attributes := attrs
def plain (name : String) (sup : Option ClassId) : Class where
  name := name
  kind := .ordinary
  loader := none
  accessFlags := 33
  super := sup
  interfaces := #[]
  cf := none
  fields := #[]
  methods := #[]
  instanceTypes := #[]
  staticTypes := #[]
  resolved := #[]
  callSites := []
  init := .initialized
  statics := none
  mirror := none

def pool0 : Array CpInfo := pool [(5, u "<init>"), (0, u "()V"), (1, .class_ 10), (1, u "java/lang/Object")] 113

def k0m0 : Method := { name := "<init>", desc := "()V", sig := { parameters := [], returnType := none }, accessFlags := 1, code := none }
/-- java/lang/Object -/
def k0 : Class := { plain "java/lang/Object" none with
  accessFlags := 33
  interfaces := #[]
  cf := some (fileOf pool0 8 #[] #[{ accessFlags := 1, nameIndex := 5, descriptorIndex := 6, attributes := #[] }] 33 0 #[] #[])
  fields := #[]
  methods := #[k0m0]
  instanceTypes := #[]
  staticTypes := #[]
  resolved := Array.replicate 124 none
  statics := none }

def pool1 : Array CpInfo := pool [(2, .class_ 4), (1, u "java/lang/Object"), (0, u "<init>"), (0, u "()V"), (0, .integer 2147483647), (0, .methodref 9 10), (0, .class_ 11), (0, .nameAndType 12 13), (0, u "com/example/wharfline/wharfline/http/HttpSyntax"), (0, u "isAlpha"), (0, u "(I)Z"), (0, .methodref 15 16), (0, .class_ 17), (0, .nameAndType 18 13), (0, u "com/example/wharfline/wharfline/http/HttpSyntaxIsAlphaPinLaw"), (0, u "letter"), (3, u "law"), (0, u "(II)Z")] 2

def k1m0 : Method := { name := "<init>", desc := "()V", sig := { parameters := [], returnType := none }, accessFlags := 2, code := none }
def k1c1 : Code := { maxStack := 2, maxLocals := 2, code := method_2_code, exceptionTable := #[], attributes := #[] }
def k1m1 : Method := { name := "letter", desc := "(I)Z", sig := { parameters := [.int], returnType := some .boolean }, accessFlags := 10, code := some k1c1 }
def k1c2 : Code := { maxStack := 3, maxLocals := 3, code := code, exceptionTable := #[], attributes := #[] }
def k1m2 : Method := { name := "law", desc := "(II)Z", sig := { parameters := [.int, .int], returnType := some .boolean }, accessFlags := 9, code := some k1c2 }
/-- com/example/wharfline/wharfline/http/HttpSyntaxIsAlphaPinLaw -/
def k1 : Class := { plain "com/example/wharfline/wharfline/http/HttpSyntaxIsAlphaPinLaw" (some 0) with
  accessFlags := 49
  interfaces := #[]
  cf := some (fileOf pool1 15 #[] #[{ accessFlags := 2, nameIndex := 5, descriptorIndex := 6, attributes := #[] }, { accessFlags := 10, nameIndex := 18, descriptorIndex := 13, attributes := #[] }, { accessFlags := 9, nameIndex := 22, descriptorIndex := 23, attributes := #[] }] 49 2 #[] #[])
  fields := #[]
  methods := #[k1m0, k1m1, k1m2]
  instanceTypes := #[]
  staticTypes := #[]
  resolved := Array.replicate 26 none
  statics := none }

def pool2 : Array CpInfo := pool [(2, .class_ 4), (1, u "java/lang/Object"), (0, u "<init>"), (0, u "()V"), (1, .class_ 10), (1, u "com/example/wharfline/wharfline/http/HttpSyntax"), (15, u "(I)Z"), (10, .class_ 38), (0, u "com/example/wharfline/wharfline/http/HttpSyntax$Parameter"), (21, u "TOKEN_CHARACTERS"), (0, u "[Z"), (2, u "isAlpha"), (23, u "TOKEN_SYMBOLS"), (0, u "Ljava/lang/String;"), (1, u "SUB_DELIMITERS")] 22

def k2m0 : Method := { name := "<init>", desc := "()V", sig := { parameters := [], returnType := none }, accessFlags := 2, code := none }
def k2c1 : Code := { maxStack := 2, maxLocals := 1, code := prog_82_method_14_code, exceptionTable := #[], attributes := #[] }
def k2m1 : Method := { name := "isAlpha", desc := "(I)Z", sig := { parameters := [.int], returnType := some .boolean }, accessFlags := 8, code := some k2c1 }
/-- com/example/wharfline/wharfline/http/HttpSyntax -/
def k2 : Class := { plain "com/example/wharfline/wharfline/http/HttpSyntax" (some 0) with
  accessFlags := 48
  interfaces := #[]
  cf := some (fileOf pool2 8 #[.nestMembers #[37]] #[{ accessFlags := 2, nameIndex := 5, descriptorIndex := 6, attributes := #[] }, { accessFlags := 8, nameIndex := 64, descriptorIndex := 26, attributes := #[] }] 48 2 #[] #[{ accessFlags := 26, nameIndex := 88, descriptorIndex := 89, attributes := #[] }, { accessFlags := 26, nameIndex := 91, descriptorIndex := 89, attributes := #[] }, { accessFlags := 26, nameIndex := 60, descriptorIndex := 61, attributes := #[] }])
  fields := #[{ name := "TOKEN_SYMBOLS", type := (.object "java/lang/String"), accessFlags := 26, slot := 0, constantValue := 0 }, { name := "SUB_DELIMITERS", type := (.object "java/lang/String"), accessFlags := 26, slot := 1, constantValue := 0 }, { name := "TOKEN_CHARACTERS", type := (.array .boolean), accessFlags := 26, slot := 2, constantValue := 0 }]
  methods := #[k2m0, k2m1]
  instanceTypes := #[]
  staticTypes := #[(.object "java/lang/String"), (.object "java/lang/String"), (.array .boolean)]
  resolved := Array.replicate 114 none
  statics := none }

def pool3 : Array CpInfo := pool [(1, u "java/lang/Cloneable"), (0, .class_ 1), (0, u "java/lang/Object"), (0, .class_ 3)] 3

/-- java/lang/Cloneable -/
def k3 : Class := { plain "java/lang/Cloneable" (some 0) with
  accessFlags := 1537
  interfaces := #[]
  cf := some (fileOf pool3 2 #[] #[] 1537 4 #[] #[])
  fields := #[]
  methods := #[]
  instanceTypes := #[]
  staticTypes := #[]
  resolved := Array.replicate 8 none
  statics := none }

def pool4 : Array CpInfo := pool [(1, u "java/io/Serializable"), (0, .class_ 1), (0, u "java/lang/Object"), (0, .class_ 3)] 3

/-- java/io/Serializable -/
def k4 : Class := { plain "java/io/Serializable" (some 0) with
  accessFlags := 1537
  interfaces := #[]
  cf := some (fileOf pool4 2 #[] #[] 1537 4 #[] #[])
  fields := #[]
  methods := #[]
  instanceTypes := #[]
  staticTypes := #[]
  resolved := Array.replicate 8 none
  statics := none }

/-- the primitive byte -/
def k5 : Class := { plain "byte" none with kind := .primitive 'B', accessFlags := 0x411 }
/-- [B -/
def k6 : Class := { plain "[B" (some 0) with kind := .array 5 .byte, interfaces := #[3, 4], accessFlags := 1041 }

/-- the primitive int -/
def k7 : Class := { plain "int" none with kind := .primitive 'I', accessFlags := 0x411 }
/-- [I -/
def k8 : Class := { plain "[I" (some 0) with kind := .array 7 .int, interfaces := #[3, 4], accessFlags := 1041 }

def heap : Heap := #[]
def classes : Array Class := #[k0, k1, k2, k3, k4, k5, k6, k7, k8]
def interned : List (Array UInt16 × Addr) := []
def slotsUsed : Nat := 0
def theMethod : MethodId := ⟨1, 2⟩
def args0 : Array Value := #[.int 5, .int 7]
def aboutOver (below : List Frame) : State where
  vm := { classes := classes, interned := interned.toArray }
  heap := heap
  slotsUsed := slotsUsed
  threads := #[{ frames := .invoking theMethod args0 :: below }]
def below0 : List Frame := [.native { method := ⟨0, 0⟩, args := #[] }]
def about1 : State := aboutOver below0
def p0 : Program := .bare "" "" ""
def e0 : Env := launch0.env 0 0 0
theorem w_frames : about1.frames = Frame.invoking theMethod args0 :: below0 := rfl
set_option maxRecDepth 65536 in
theorem w_args : argsFit about1.vm theMethod args0 = true := by decide +kernel
set_option maxRecDepth 65536 in
theorem w_heap : heapFits about1 = true := by decide +kernel
set_option maxRecDepth 65536 in
theorem w_runnable : about1.curStatus? = some .runnable := by decide +kernel
set_option maxRecDepth 65536 in
theorem w_alone : about1.alone = true := by decide +kernel
set_option maxRecDepth 65536 in
theorem w_named : about1.methodNamed? x = some theMethod := by decide +kernel
set_option maxRecDepth 65536 in
theorem w_hears : about1.hears theMethod below0 = true := by decide +kernel
set_option maxRecDepth 65536 in
theorem w_ripe : about1.ripe theMethod args0 below0 = true := by decide +kernel
theorem w_running : about1.status = .running := rfl
set_option maxRecDepth 65536 in
theorem w_room : about1.hasRoom e0.platform room_1 = true :=
  launch0.hasRoom_least _ room_1 (by decide +kernel) (by decide +kernel) (by decide +kernel) (by decide +kernel) (by decide +kernel) (by decide +kernel)
theorem allAtoms_all (ts : List Jvm.Cond) (a : Array Jvm.Value) (st : Jvm.State) : (allAtoms ts).before a st = ts.all (fun c => c.before a st) := by
  induction ts with
  | nil => rfl
  | cons c t ih =>
    show (Jvm.Cond.and c (allAtoms t)).before a st = _
    rw [Jvm.Cond.before_and, ih, List.all_cons]
def words1 : List Jvm.Cond := Jvm.Cond.code x code maxLocals ret :: tables_1
/-- a 'code' word, met by the world's own term for the bytes: nothing is compared byte by byte -/
theorem code_word {y : MethodName} {bytes : ByteArray} {mx : Nat} {rt : Option FieldType} {a : Array Value} {s : State} {m : MethodId} {meth : Method} {c : Code} (h1 : s.methodNamed? y = some m) (h2 : s.vm.method? m = some meth) (h3 : meth.code = some c) (h4 : c.code = bytes)
    (h5 : (c.maxLocals == mx && c.exceptionTable.isEmpty && decide (c.maxStack ≤ mostOperands) && decide (meth.sig.returnType = rt) && !meth.locks && decide (parseMethodDescriptor y.desc = some meth.sig)) = true) : (Jvm.Cond.code y bytes mx rt).before a s = true := by
  simp only [Bool.and_eq_true, beq_iff_eq, Bool.not_eq_true', decide_eq_true_eq] at h5
  obtain ⟨⟨⟨⟨⟨g1, g2⟩, g3⟩, g4⟩, g5⟩, g6⟩ := h5
  simp [Cond.before, Cond.holds, Cond.value, h1, h2, h3, h4, g1, g2, g3, g4, g5, g6]
def isCode : Jvm.Cond → Bool
  | .code _ _ _ _ => true
  | _ => false
theorem all_split {L : List Jvm.Cond} {P : Jvm.Cond → Bool} (h1 : L.all (fun c => isCode c || P c) = true) (h2 : ∀ c ∈ L.filter isCode, P c = true) : L.all P = true := by
  refine List.all_eq_true.mpr fun c hc => ?_
  have h := List.all_eq_true.mp h1 c hc
  rcases Bool.eq_false_or_eq_true (isCode c) with hi | hi
  · exact h2 c (List.mem_filter.mpr ⟨hc, hi⟩)
  · simpa [hi] using h
set_option maxRecDepth 65536 in
theorem w_c0 : (Jvm.Cond.code x code maxLocals ret).before args0 about1 = true := code_word (m := ⟨1, 2⟩) (meth := k1m2) (c := k1c2) (by decide +kernel) rfl rfl rfl (by decide +kernel)
set_option maxRecDepth 65536 in
theorem w_c1 : (Jvm.Cond.code ({ cls := "com/example/wharfline/wharfline/http/HttpSyntax", name := "isAlpha", desc := "(I)Z" } : Jvm.MethodName) prog_82_method_14_code (1 : Nat) (Option.some Jvm.ClassFile.FieldType.boolean)).before args0 about1 = true := code_word (m := ⟨2, 1⟩) (meth := k2m1) (c := k2c1) (by decide +kernel) rfl rfl rfl (by decide +kernel)
set_option maxRecDepth 65536 in
theorem w_c2 : (Jvm.Cond.code ({ cls := "com/example/wharfline/wharfline/http/HttpSyntaxIsAlphaPinLaw", name := "letter", desc := "(I)Z" } : Jvm.MethodName) method_2_code (2 : Nat) (Option.some Jvm.ClassFile.FieldType.boolean)).before args0 about1 = true := code_word (m := ⟨1, 1⟩) (meth := k1m1) (c := k1c1) (by decide +kernel) rfl rfl rfl (by decide +kernel)
def codes1 : List Jvm.Cond := [Jvm.Cond.code x code maxLocals ret, Jvm.Cond.code ({ cls := "com/example/wharfline/wharfline/http/HttpSyntax", name := "isAlpha", desc := "(I)Z" } : Jvm.MethodName) prog_82_method_14_code (1 : Nat) (Option.some Jvm.ClassFile.FieldType.boolean), Jvm.Cond.code ({ cls := "com/example/wharfline/wharfline/http/HttpSyntaxIsAlphaPinLaw", name := "letter", desc := "(I)Z" } : Jvm.MethodName) method_2_code (2 : Nat) (Option.some Jvm.ClassFile.FieldType.boolean)]
set_option maxRecDepth 65536 in
theorem codes_eq : words1.filter isCode = codes1 := rfl
theorem w_codes : ∀ c ∈ words1.filter isCode, c.before args0 about1 = true := by
  rw [codes_eq]
  intro c hc
  simp only [codes1, List.mem_cons, List.not_mem_nil, or_false] at hc
  rcases hc with rfl | rfl | rfl
  · exact w_c0
  · exact w_c1
  · exact w_c2
set_option maxRecDepth 65536 in
theorem w_t1 : words1.all (fun c => isCode c || c.before args0 about1) = true := by decide +kernel
theorem w_tables : (allAtoms (Jvm.Cond.code x code maxLocals ret :: tables_1)).before args0 about1 = true := by
  rw [allAtoms_all]
  show words1.all (fun c => c.before args0 about1) = true
  refine all_split ?_ w_codes
  rw [w_t1]
set_option maxRecDepth 65536 in
theorem w_case : (Jvm.Cond.and given_1 narrow_1).before args0 about1 = true := by decide +kernel
theorem w_applies : (headSpec (Jvm.Cond.code x code maxLocals ret :: tables_1) room_1).applies x e0.platform about1 = true :=
  (Spec.applies_iff w_frames).mpr ⟨w_running, w_runnable, w_alone, w_named, w_hears, w_ripe, w_room, w_tables⟩
theorem atStart : AtStart classFile x code maxLocals ret World_1 tables_1 room_1 Calls_1 rest_1 Pre_1 launch0 p0 e0 about1 theMethod args0 below0 :=
  ⟨lists_1, trivial, launch0.admits_env _ _ _, launch0.least_env, fairChoices_fair.cas, fairChoices_fair.clock, w_frames, w_args, w_heap, w_applies, trivial, trivial, w_case⟩
end start1
theorem witness_1 : WitnessClaimed_1 := ⟨start1.p0, start1.e0, start1.about1, start1.theMethod, start1.args0, start1.below0, start1.atStart⟩
end Jvm.Pilot.@@N@@
