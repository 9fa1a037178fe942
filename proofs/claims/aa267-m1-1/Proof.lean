import JvmDerived
import JvmDerived.Pilot.@@N@@Statement
import JvmDerived.Pilot.@@N@@Code
set_option linter.unusedVariables false
set_option linter.unusedSimpArgs false
@@BLOCK:NumsL.lean.txt@@
namespace Jvm.RoadKit
open Sem ClassFile Op Lib Jvm.Stand Jvm.Free Jvm.LawKit
section New
variable {p : Program} {l : Launch} {e : Env} {R : Room} {s : State} {m : MethodId} {args : Array Value} {below : List Frame} {meth : Method} {c : Code} {T : State} {locs : List Loc} {cells slots : Nat}
theorem retI (X : Stand p l e R s m args below meth c T locs cells slots) (hx : p.tables.exec = Jvm.exec) {pc : Nat} {Ls : Array Slot} {z : Int32} {rest : List Value} (hret : meth.sig.returnType = some .int) (hd : decode c.code pc = .ok (.ireturn, 1)) {fs : List Frame}
    (hl : ∀ (f : JFrame) (acts : List Action), f.method = m → f.locked = none → f.entered = [] → (doReturn e (T.setTop f) acts (some (.int z))).1 = T.setFrames fs) : Steps p.tables e below (T.setTop (mkF m pc Ls (.int z :: rest))) (T.setFrames fs) := by
  have hm' : T.vm.method? m = some meth := X.method'
  have hn : narrow .int (.int z) = .int z := rfl
  show Steps p.tables e below (T.setTop { method := m, pc := pc, locals := Ls, stack := _ :: rest, locked := none }) _
  jvm_step X.here [X.here.top, hx, hd, hm', hret, hn]
  first | (intro acts; rw [hl _ acts rfl rfl rfl]) | rw [hl _ _ rfl rfl rfl]
  exact Steps.refl _
end New
end Jvm.RoadKit
namespace Jvm.Pilot.@@N@@
open Jvm Jvm.ClassFile Sem Op Lib Jvm.Free Jvm.Stand Jvm.LawKit Jvm.RoadKit Bundle Jvm.Pilot.@@N@@.Jvm.D
theorem own_pack {p : Program} {l : Launch} {e : Env} {R : Room} {s : State} {m : MethodId} {args : Array Value} {below : List Frame} {meth : Method} {c : Code} {T : State} {locs : List Loc} {cells slots n0 : Nat} (X : Stand p l e R s m args below meth c T locs cells slots) (N : Fr n0 locs) : ∃ L, Stand p l e R s m args below meth c T L cells slots ∧ Fr n0 L := ⟨_, X, N⟩
theorem d1_0 : decode prog_85_method_2_code 0 = .ok (.iload_n 0, 1) := by decide +kernel
theorem d1_1 : decode prog_85_method_2_code 1 = .ok (.bipush 9, 2) := by decide +kernel
theorem d1_3 : decode prog_85_method_2_code 3 = .ok (.if_icmp .eq 51, 3) := by decide +kernel
theorem d1_6 : decode prog_85_method_2_code 6 = .ok (.iload_n 0, 1) := by decide +kernel
theorem d1_7 : decode prog_85_method_2_code 7 = .ok (.bipush 10, 2) := by decide +kernel
theorem d1_9 : decode prog_85_method_2_code 9 = .ok (.if_icmp .eq 45, 3) := by decide +kernel
theorem d1_12 : decode prog_85_method_2_code 12 = .ok (.iload_n 0, 1) := by decide +kernel
theorem d1_13 : decode prog_85_method_2_code 13 = .ok (.bipush 13, 2) := by decide +kernel
theorem d1_15 : decode prog_85_method_2_code 15 = .ok (.if_icmp .eq 39, 3) := by decide +kernel
theorem d1_18 : decode prog_85_method_2_code 18 = .ok (.iload_n 0, 1) := by decide +kernel
theorem d1_19 : decode prog_85_method_2_code 19 = .ok (.bipush 32, 2) := by decide +kernel
theorem d1_21 : decode prog_85_method_2_code 21 = .ok (.if_icmp .lt 9, 3) := by decide +kernel
theorem d1_24 : decode prog_85_method_2_code 24 = .ok (.iload_n 0, 1) := by decide +kernel
theorem d1_25 : decode prog_85_method_2_code 25 = .ok (.ldc 7, 2) := by decide +kernel
theorem d1_27 : decode prog_85_method_2_code 27 = .ok (.if_icmp .le 27, 3) := by decide +kernel
theorem d1_30 : decode prog_85_method_2_code 30 = .ok (.iload_n 0, 1) := by decide +kernel
theorem d1_31 : decode prog_85_method_2_code 31 = .ok (.ldc 8, 2) := by decide +kernel
theorem d1_33 : decode prog_85_method_2_code 33 = .ok (.if_icmp .lt 9, 3) := by decide +kernel
theorem d1_36 : decode prog_85_method_2_code 36 = .ok (.iload_n 0, 1) := by decide +kernel
theorem d1_37 : decode prog_85_method_2_code 37 = .ok (.ldc 9, 2) := by decide +kernel
theorem d1_39 : decode prog_85_method_2_code 39 = .ok (.if_icmp .le 15, 3) := by decide +kernel
theorem d1_42 : decode prog_85_method_2_code 42 = .ok (.iload_n 0, 1) := by decide +kernel
theorem d1_43 : decode prog_85_method_2_code 43 = .ok (.ldc 10, 2) := by decide +kernel
theorem d1_45 : decode prog_85_method_2_code 45 = .ok (.if_icmp .lt 13, 3) := by decide +kernel
theorem d1_48 : decode prog_85_method_2_code 48 = .ok (.iload_n 0, 1) := by decide +kernel
theorem d1_49 : decode prog_85_method_2_code 49 = .ok (.ldc 11, 2) := by decide +kernel
theorem d1_51 : decode prog_85_method_2_code 51 = .ok (.if_icmp .gt 7, 3) := by decide +kernel
theorem d1_54 : decode prog_85_method_2_code 54 = .ok (.iconst 1, 1) := by decide +kernel
theorem d1_55 : decode prog_85_method_2_code 55 = .ok (.goto 4, 3) := by decide +kernel
theorem d1_58 : decode prog_85_method_2_code 58 = .ok (.iconst 0, 1) := by decide +kernel
theorem d1_59 : decode prog_85_method_2_code 59 = .ok (.ireturn, 1) := by decide +kernel
theorem pn_char : plainName "com/example/ostravice/ostravice/value/XmlChars" = true := by first | (simp [plainName, overriddenIn]; done) | decide +kernel
theorem ef_char (m : MethodId) (p0 : Int32) : entryFrame m #[(.int p0)] 1 = mkF m 0 #[.val (.int p0)] [] := by first | (simp [entryFrame, mkF, argsToLocals, Value.category]; done) | rfl
def f_char (p0 : Int32) : Int32 := (if p0 = (9 : Int32) then (1 : Int32) else (if p0 = (10 : Int32) then (1 : Int32) else (if p0 = (13 : Int32) then (1 : Int32) else (if p0 < (32 : Int32) then (if p0 < (57344 : Int32) then (if p0 < (65536 : Int32) then (0 : Int32) else (if (1114111 : Int32) < p0 then (0 : Int32) else (1 : Int32))) else (if (65533 : Int32) < p0 then (if p0 < (65536 : Int32) then (0 : Int32) else (if (1114111 : Int32) < p0 then (0 : Int32) else (1 : Int32))) else (1 : Int32))) else (if (55295 : Int32) < p0 then (if p0 < (57344 : Int32) then (if p0 < (65536 : Int32) then (0 : Int32) else (if (1114111 : Int32) < p0 then (0 : Int32) else (1 : Int32))) else (if (65533 : Int32) < p0 then (if p0 < (65536 : Int32) then (0 : Int32) else (if (1114111 : Int32) < p0 then (0 : Int32) else (1 : Int32))) else (1 : Int32))) else (1 : Int32))))))
def Q_char (Z : State) (p0 : Int32) (h0 : Heap) (n0 : Nat) (v : Option Value) (h : Heap) (L : List Loc) : Prop := v = some (.int (f_char p0)) ∧ Fr n0 L ∧ h = h0
set_option maxRecDepth 65536 in
set_option maxHeartbeats 40000000 in
theorem rm_char (l : Launch) (Z : State) (a0 : Array Value) (hw : ∀ d ∈ tables_1, d.before a0 Z = true) (ws : List Jvm.Cond) (p0 : Int32) (h0 : Heap) (n0 : Nat) (Z0 : n0 ≤ h0.size) :
    MetFree l (⟨"com/example/ostravice/ostravice/value/XmlChars", "isChar", "(I)Z"⟩ : MethodName) (head1 (Jvm.Cond.code (⟨"com/example/ostravice/ostravice/value/XmlChars", "isChar", "(I)Z"⟩ : MethodName) prog_85_method_2_code 1 (some .boolean) :: ws) ({ frames := 0, cells := 0, slots := 0, locals := 0 } : Room)) (fun a U => a = #[(.int p0)] ∧ Z.Warmed39 U.vm ∧ U.heap = h0) (fun _ _ _ _ _ => True) (fun _ U o U' => ∃ v L, o = .returned v ∧ Q_char Z p0 h0 n0 v U'.heap L ∧ FrameEnd U o U' L ({ frames := 0, cells := 0, slots := 0, locals := 0 } : Room).cells ({ frames := 0, cells := 0, slots := 0, locals := 0 } : Room).slots) := by
  refine MetFree.of_bodySF (plainFor_of_name pn_char) hisR ?_
  intro p e s m args below meth c s₁ Bd hml0 hP hK
  obtain ⟨rfl, hZ, hh⟩ := hP
  have hx := Bd.exec
  have hby := Bd.bytes
  have hml : c.maxLocals = 1 := hml0
  have hown : s.vm.findClass "com/example/ostravice/ostravice/value/XmlChars" = some m.cls := findClass_of_methodNamed Bd.named
  have hnm := (name_of_methodNamed Bd.named Bd.method).1
  have X0 : Stand p l e ({ frames := 0, cells := 0, slots := 0, locals := 0 } : Room) s m #[(.int p0)] below meth c s₁ [] 0 0 := Stand.of_body Bd
  have e0 : s₁.heap = h0 := by rw [← hh, Bd.state]; rfl
  have N0 := Fr.nil n0
  have pre0 : ∀ tg, Steps p.tables e below (s₁.setTop (mkF m 0 #[.val (.int p0)] [])) tg → Steps p.tables e below (s₁.setTop (entryFrame m #[(.int p0)] 1)) tg := fun tg kg => castTop (ef_char m p0) kg
  obtain ⟨fs, hr, hrun, hended, hW, hsame⟩ := X0.leave (v := some (.int (f_char p0))) (fun h => by rw [Bd.returns] at h; cases h)
  refine ⟨_, _, pre0 _ ?_, hrun, hended, _, _, rfl, ?_, ⟨_, rfl⟩, hW, hsame.mono (by decide) (by decide)⟩
  · show Steps p.tables e below (s₁.setTop (mkF m 0 #[.val (.int p0)] [])) _
    refine XS.iloadN X0.here hx rfl (hb hby d1_0) rfl ?_
    show Steps p.tables e below (s₁.setTop (mkF m 1 #[.val (.int p0)] [(.int p0)])) _
    refine XS.bipush X0.here hx rfl (hb hby d1_1) ?_
    show Steps p.tables e below (s₁.setTop (mkF m 3 #[.val (.int p0)] [(.int (9 : Int32)), (.int p0)])) _
    by_cases hc3_0 : p0 = (9 : Int32)
    · refine XS.icmpYes X0.here hx rfl (pc0 := 3) (pc' := 54) rfl (hb hby d1_3) rfl (teq hc3_0).1 (by decide) (by decide) ?_
      show Steps p.tables e below (s₁.setTop (mkF m 54 #[.val (.int p0)] [])) _
      refine XS.iconst X0.here hx rfl (hb hby d1_54) ?_
      show Steps p.tables e below (s₁.setTop (mkF m 55 #[.val (.int p0)] [(.int (1 : Int32))])) _
      refine XS.goto X0.here hx rfl (pc0 := 55) (pc' := 59) rfl (hb hby d1_55) (by decide) (by decide) ?_
      show Steps p.tables e below (s₁.setTop (mkF m 59 #[.val (.int p0)] [(.int (1 : Int32))])) _
      have hf : (f_char p0) = (1 : Int32) := by unfold f_char; rw [if_pos hc3_0]
      rw [hf] at hr
      exact retN X0 hx (t := .boolean) Bd.returns (by simp) (hb hby d1_59) hr
    · refine XS.icmpNo X0.here hx rfl (hb hby d1_3) rfl (feq hc3_0).1 ?_
      show Steps p.tables e below (s₁.setTop (mkF m 6 #[.val (.int p0)] [])) _
      refine XS.iloadN X0.here hx rfl (hb hby d1_6) rfl ?_
      show Steps p.tables e below (s₁.setTop (mkF m 7 #[.val (.int p0)] [(.int p0)])) _
      refine XS.bipush X0.here hx rfl (hb hby d1_7) ?_
      show Steps p.tables e below (s₁.setTop (mkF m 9 #[.val (.int p0)] [(.int (10 : Int32)), (.int p0)])) _
      by_cases hc9_1 : p0 = (10 : Int32)
      · refine XS.icmpYes X0.here hx rfl (pc0 := 9) (pc' := 54) rfl (hb hby d1_9) rfl (teq hc9_1).1 (by decide) (by decide) ?_
        show Steps p.tables e below (s₁.setTop (mkF m 54 #[.val (.int p0)] [])) _
        refine XS.iconst X0.here hx rfl (hb hby d1_54) ?_
        show Steps p.tables e below (s₁.setTop (mkF m 55 #[.val (.int p0)] [(.int (1 : Int32))])) _
        refine XS.goto X0.here hx rfl (pc0 := 55) (pc' := 59) rfl (hb hby d1_55) (by decide) (by decide) ?_
        show Steps p.tables e below (s₁.setTop (mkF m 59 #[.val (.int p0)] [(.int (1 : Int32))])) _
        have hf : (f_char p0) = (1 : Int32) := by unfold f_char; rw [if_neg hc3_0, if_pos hc9_1]
        rw [hf] at hr
        exact retN X0 hx (t := .boolean) Bd.returns (by simp) (hb hby d1_59) hr
      · refine XS.icmpNo X0.here hx rfl (hb hby d1_9) rfl (feq hc9_1).1 ?_
        show Steps p.tables e below (s₁.setTop (mkF m 12 #[.val (.int p0)] [])) _
        refine XS.iloadN X0.here hx rfl (hb hby d1_12) rfl ?_
        show Steps p.tables e below (s₁.setTop (mkF m 13 #[.val (.int p0)] [(.int p0)])) _
        refine XS.bipush X0.here hx rfl (hb hby d1_13) ?_
        show Steps p.tables e below (s₁.setTop (mkF m 15 #[.val (.int p0)] [(.int (13 : Int32)), (.int p0)])) _
        by_cases hc15_2 : p0 = (13 : Int32)
        · refine XS.icmpYes X0.here hx rfl (pc0 := 15) (pc' := 54) rfl (hb hby d1_15) rfl (teq hc15_2).1 (by decide) (by decide) ?_
          show Steps p.tables e below (s₁.setTop (mkF m 54 #[.val (.int p0)] [])) _
          refine XS.iconst X0.here hx rfl (hb hby d1_54) ?_
          show Steps p.tables e below (s₁.setTop (mkF m 55 #[.val (.int p0)] [(.int (1 : Int32))])) _
          refine XS.goto X0.here hx rfl (pc0 := 55) (pc' := 59) rfl (hb hby d1_55) (by decide) (by decide) ?_
          show Steps p.tables e below (s₁.setTop (mkF m 59 #[.val (.int p0)] [(.int (1 : Int32))])) _
          have hf : (f_char p0) = (1 : Int32) := by unfold f_char; rw [if_neg hc3_0, if_neg hc9_1, if_pos hc15_2]
          rw [hf] at hr
          exact retN X0 hx (t := .boolean) Bd.returns (by simp) (hb hby d1_59) hr
        · refine XS.icmpNo X0.here hx rfl (hb hby d1_15) rfl (feq hc15_2).1 ?_
          show Steps p.tables e below (s₁.setTop (mkF m 18 #[.val (.int p0)] [])) _
          refine XS.iloadN X0.here hx rfl (hb hby d1_18) rfl ?_
          show Steps p.tables e below (s₁.setTop (mkF m 19 #[.val (.int p0)] [(.int p0)])) _
          refine XS.bipush X0.here hx rfl (hb hby d1_19) ?_
          show Steps p.tables e below (s₁.setTop (mkF m 21 #[.val (.int p0)] [(.int (32 : Int32)), (.int p0)])) _
          by_cases hc21_3 : p0 < (32 : Int32)
          · refine XS.icmpYes X0.here hx rfl (pc0 := 21) (pc' := 30) rfl (hb hby d1_21) rfl (tlt hc21_3).1 (by decide) (by decide) ?_
            show Steps p.tables e below (s₁.setTop (mkF m 30 #[.val (.int p0)] [])) _
            refine XS.iloadN X0.here hx rfl (hb hby d1_30) rfl ?_
            show Steps p.tables e below (s₁.setTop (mkF m 31 #[.val (.int p0)] [(.int p0)])) _
            refine X0.ldcInt hx hown (mvT hZ (hw _ (List.mem_of_getElem? (i := 16) rfl))) (g := (mkF m 31 #[.val (.int p0)] [(.int p0)])) rfl (hb hby d1_31) _ ?_
            show Steps p.tables e below (s₁.setTop (mkF m 33 #[.val (.int p0)] [(.int (57344 : Int32)), (.int p0)])) _
            by_cases hc33_4 : p0 < (57344 : Int32)
            · refine XS.icmpYes X0.here hx rfl (pc0 := 33) (pc' := 42) rfl (hb hby d1_33) rfl (tlt hc33_4).1 (by decide) (by decide) ?_
              show Steps p.tables e below (s₁.setTop (mkF m 42 #[.val (.int p0)] [])) _
              refine XS.iloadN X0.here hx rfl (hb hby d1_42) rfl ?_
              show Steps p.tables e below (s₁.setTop (mkF m 43 #[.val (.int p0)] [(.int p0)])) _
              refine X0.ldcInt hx hown (mvT hZ (hw _ (List.mem_of_getElem? (i := 17) rfl))) (g := (mkF m 43 #[.val (.int p0)] [(.int p0)])) rfl (hb hby d1_43) _ ?_
              show Steps p.tables e below (s₁.setTop (mkF m 45 #[.val (.int p0)] [(.int (65536 : Int32)), (.int p0)])) _
              by_cases hc45_5 : p0 < (65536 : Int32)
              · refine XS.icmpYes X0.here hx rfl (pc0 := 45) (pc' := 58) rfl (hb hby d1_45) rfl (tlt hc45_5).1 (by decide) (by decide) ?_
                show Steps p.tables e below (s₁.setTop (mkF m 58 #[.val (.int p0)] [])) _
                refine XS.iconst X0.here hx rfl (hb hby d1_58) ?_
                show Steps p.tables e below (s₁.setTop (mkF m 59 #[.val (.int p0)] [(.int (0 : Int32))])) _
                have hf : (f_char p0) = (0 : Int32) := by unfold f_char; rw [if_neg hc3_0, if_neg hc9_1, if_neg hc15_2, if_pos hc21_3, if_pos hc33_4, if_pos hc45_5]
                rw [hf] at hr
                exact retN X0 hx (t := .boolean) Bd.returns (by simp) (hb hby d1_59) hr
              · refine XS.icmpNo X0.here hx rfl (hb hby d1_45) rfl (flt hc45_5).1 ?_
                show Steps p.tables e below (s₁.setTop (mkF m 48 #[.val (.int p0)] [])) _
                refine XS.iloadN X0.here hx rfl (hb hby d1_48) rfl ?_
                show Steps p.tables e below (s₁.setTop (mkF m 49 #[.val (.int p0)] [(.int p0)])) _
                refine X0.ldcInt hx hown (mvT hZ (hw _ (List.mem_of_getElem? (i := 24) rfl))) (g := (mkF m 49 #[.val (.int p0)] [(.int p0)])) rfl (hb hby d1_49) _ ?_
                show Steps p.tables e below (s₁.setTop (mkF m 51 #[.val (.int p0)] [(.int (1114111 : Int32)), (.int p0)])) _
                by_cases hc51_6 : (1114111 : Int32) < p0
                · refine XS.icmpYes X0.here hx rfl (pc0 := 51) (pc' := 58) rfl (hb hby d1_51) rfl (tlt hc51_6).2.2.1 (by decide) (by decide) ?_
                  show Steps p.tables e below (s₁.setTop (mkF m 58 #[.val (.int p0)] [])) _
                  refine XS.iconst X0.here hx rfl (hb hby d1_58) ?_
                  show Steps p.tables e below (s₁.setTop (mkF m 59 #[.val (.int p0)] [(.int (0 : Int32))])) _
                  have hf : (f_char p0) = (0 : Int32) := by unfold f_char; rw [if_neg hc3_0, if_neg hc9_1, if_neg hc15_2, if_pos hc21_3, if_pos hc33_4, if_neg hc45_5, if_pos hc51_6]
                  rw [hf] at hr
                  exact retN X0 hx (t := .boolean) Bd.returns (by simp) (hb hby d1_59) hr
                · refine XS.icmpNo X0.here hx rfl (hb hby d1_51) rfl (flt hc51_6).2.2.1 ?_
                  show Steps p.tables e below (s₁.setTop (mkF m 54 #[.val (.int p0)] [])) _
                  refine XS.iconst X0.here hx rfl (hb hby d1_54) ?_
                  show Steps p.tables e below (s₁.setTop (mkF m 55 #[.val (.int p0)] [(.int (1 : Int32))])) _
                  refine XS.goto X0.here hx rfl (pc0 := 55) (pc' := 59) rfl (hb hby d1_55) (by decide) (by decide) ?_
                  show Steps p.tables e below (s₁.setTop (mkF m 59 #[.val (.int p0)] [(.int (1 : Int32))])) _
                  have hf : (f_char p0) = (1 : Int32) := by unfold f_char; rw [if_neg hc3_0, if_neg hc9_1, if_neg hc15_2, if_pos hc21_3, if_pos hc33_4, if_neg hc45_5, if_neg hc51_6]
                  rw [hf] at hr
                  exact retN X0 hx (t := .boolean) Bd.returns (by simp) (hb hby d1_59) hr
            · refine XS.icmpNo X0.here hx rfl (hb hby d1_33) rfl (flt hc33_4).1 ?_
              show Steps p.tables e below (s₁.setTop (mkF m 36 #[.val (.int p0)] [])) _
              refine XS.iloadN X0.here hx rfl (hb hby d1_36) rfl ?_
              show Steps p.tables e below (s₁.setTop (mkF m 37 #[.val (.int p0)] [(.int p0)])) _
              refine X0.ldcInt hx hown (mvT hZ (hw _ (List.mem_of_getElem? (i := 23) rfl))) (g := (mkF m 37 #[.val (.int p0)] [(.int p0)])) rfl (hb hby d1_37) _ ?_
              show Steps p.tables e below (s₁.setTop (mkF m 39 #[.val (.int p0)] [(.int (65533 : Int32)), (.int p0)])) _
              by_cases hc39_5 : (65533 : Int32) < p0
              · refine XS.icmpNo X0.here hx rfl (hb hby d1_39) rfl (tlt hc39_5).2.2.2 ?_
                show Steps p.tables e below (s₁.setTop (mkF m 42 #[.val (.int p0)] [])) _
                refine XS.iloadN X0.here hx rfl (hb hby d1_42) rfl ?_
                show Steps p.tables e below (s₁.setTop (mkF m 43 #[.val (.int p0)] [(.int p0)])) _
                refine X0.ldcInt hx hown (mvT hZ (hw _ (List.mem_of_getElem? (i := 17) rfl))) (g := (mkF m 43 #[.val (.int p0)] [(.int p0)])) rfl (hb hby d1_43) _ ?_
                show Steps p.tables e below (s₁.setTop (mkF m 45 #[.val (.int p0)] [(.int (65536 : Int32)), (.int p0)])) _
                by_cases hc45_6 : p0 < (65536 : Int32)
                · refine XS.icmpYes X0.here hx rfl (pc0 := 45) (pc' := 58) rfl (hb hby d1_45) rfl (tlt hc45_6).1 (by decide) (by decide) ?_
                  show Steps p.tables e below (s₁.setTop (mkF m 58 #[.val (.int p0)] [])) _
                  refine XS.iconst X0.here hx rfl (hb hby d1_58) ?_
                  show Steps p.tables e below (s₁.setTop (mkF m 59 #[.val (.int p0)] [(.int (0 : Int32))])) _
                  have hf : (f_char p0) = (0 : Int32) := by unfold f_char; rw [if_neg hc3_0, if_neg hc9_1, if_neg hc15_2, if_pos hc21_3, if_neg hc33_4, if_pos hc39_5, if_pos hc45_6]
                  rw [hf] at hr
                  exact retN X0 hx (t := .boolean) Bd.returns (by simp) (hb hby d1_59) hr
                · refine XS.icmpNo X0.here hx rfl (hb hby d1_45) rfl (flt hc45_6).1 ?_
                  show Steps p.tables e below (s₁.setTop (mkF m 48 #[.val (.int p0)] [])) _
                  refine XS.iloadN X0.here hx rfl (hb hby d1_48) rfl ?_
                  show Steps p.tables e below (s₁.setTop (mkF m 49 #[.val (.int p0)] [(.int p0)])) _
                  refine X0.ldcInt hx hown (mvT hZ (hw _ (List.mem_of_getElem? (i := 24) rfl))) (g := (mkF m 49 #[.val (.int p0)] [(.int p0)])) rfl (hb hby d1_49) _ ?_
                  show Steps p.tables e below (s₁.setTop (mkF m 51 #[.val (.int p0)] [(.int (1114111 : Int32)), (.int p0)])) _
                  by_cases hc51_7 : (1114111 : Int32) < p0
                  · refine XS.icmpYes X0.here hx rfl (pc0 := 51) (pc' := 58) rfl (hb hby d1_51) rfl (tlt hc51_7).2.2.1 (by decide) (by decide) ?_
                    show Steps p.tables e below (s₁.setTop (mkF m 58 #[.val (.int p0)] [])) _
                    refine XS.iconst X0.here hx rfl (hb hby d1_58) ?_
                    show Steps p.tables e below (s₁.setTop (mkF m 59 #[.val (.int p0)] [(.int (0 : Int32))])) _
                    have hf : (f_char p0) = (0 : Int32) := by unfold f_char; rw [if_neg hc3_0, if_neg hc9_1, if_neg hc15_2, if_pos hc21_3, if_neg hc33_4, if_pos hc39_5, if_neg hc45_6, if_pos hc51_7]
                    rw [hf] at hr
                    exact retN X0 hx (t := .boolean) Bd.returns (by simp) (hb hby d1_59) hr
                  · refine XS.icmpNo X0.here hx rfl (hb hby d1_51) rfl (flt hc51_7).2.2.1 ?_
                    show Steps p.tables e below (s₁.setTop (mkF m 54 #[.val (.int p0)] [])) _
                    refine XS.iconst X0.here hx rfl (hb hby d1_54) ?_
                    show Steps p.tables e below (s₁.setTop (mkF m 55 #[.val (.int p0)] [(.int (1 : Int32))])) _
                    refine XS.goto X0.here hx rfl (pc0 := 55) (pc' := 59) rfl (hb hby d1_55) (by decide) (by decide) ?_
                    show Steps p.tables e below (s₁.setTop (mkF m 59 #[.val (.int p0)] [(.int (1 : Int32))])) _
                    have hf : (f_char p0) = (1 : Int32) := by unfold f_char; rw [if_neg hc3_0, if_neg hc9_1, if_neg hc15_2, if_pos hc21_3, if_neg hc33_4, if_pos hc39_5, if_neg hc45_6, if_neg hc51_7]
                    rw [hf] at hr
                    exact retN X0 hx (t := .boolean) Bd.returns (by simp) (hb hby d1_59) hr
              · refine XS.icmpYes X0.here hx rfl (pc0 := 39) (pc' := 54) rfl (hb hby d1_39) rfl (flt hc39_5).2.2.2 (by decide) (by decide) ?_
                show Steps p.tables e below (s₁.setTop (mkF m 54 #[.val (.int p0)] [])) _
                refine XS.iconst X0.here hx rfl (hb hby d1_54) ?_
                show Steps p.tables e below (s₁.setTop (mkF m 55 #[.val (.int p0)] [(.int (1 : Int32))])) _
                refine XS.goto X0.here hx rfl (pc0 := 55) (pc' := 59) rfl (hb hby d1_55) (by decide) (by decide) ?_
                show Steps p.tables e below (s₁.setTop (mkF m 59 #[.val (.int p0)] [(.int (1 : Int32))])) _
                have hf : (f_char p0) = (1 : Int32) := by unfold f_char; rw [if_neg hc3_0, if_neg hc9_1, if_neg hc15_2, if_pos hc21_3, if_neg hc33_4, if_neg hc39_5]
                rw [hf] at hr
                exact retN X0 hx (t := .boolean) Bd.returns (by simp) (hb hby d1_59) hr
          · refine XS.icmpNo X0.here hx rfl (hb hby d1_21) rfl (flt hc21_3).1 ?_
            show Steps p.tables e below (s₁.setTop (mkF m 24 #[.val (.int p0)] [])) _
            refine XS.iloadN X0.here hx rfl (hb hby d1_24) rfl ?_
            show Steps p.tables e below (s₁.setTop (mkF m 25 #[.val (.int p0)] [(.int p0)])) _
            refine X0.ldcInt hx hown (mvT hZ (hw _ (List.mem_of_getElem? (i := 22) rfl))) (g := (mkF m 25 #[.val (.int p0)] [(.int p0)])) rfl (hb hby d1_25) _ ?_
            show Steps p.tables e below (s₁.setTop (mkF m 27 #[.val (.int p0)] [(.int (55295 : Int32)), (.int p0)])) _
            by_cases hc27_4 : (55295 : Int32) < p0
            · refine XS.icmpNo X0.here hx rfl (hb hby d1_27) rfl (tlt hc27_4).2.2.2 ?_
              show Steps p.tables e below (s₁.setTop (mkF m 30 #[.val (.int p0)] [])) _
              refine XS.iloadN X0.here hx rfl (hb hby d1_30) rfl ?_
              show Steps p.tables e below (s₁.setTop (mkF m 31 #[.val (.int p0)] [(.int p0)])) _
              refine X0.ldcInt hx hown (mvT hZ (hw _ (List.mem_of_getElem? (i := 16) rfl))) (g := (mkF m 31 #[.val (.int p0)] [(.int p0)])) rfl (hb hby d1_31) _ ?_
              show Steps p.tables e below (s₁.setTop (mkF m 33 #[.val (.int p0)] [(.int (57344 : Int32)), (.int p0)])) _
              by_cases hc33_5 : p0 < (57344 : Int32)
              · refine XS.icmpYes X0.here hx rfl (pc0 := 33) (pc' := 42) rfl (hb hby d1_33) rfl (tlt hc33_5).1 (by decide) (by decide) ?_
                show Steps p.tables e below (s₁.setTop (mkF m 42 #[.val (.int p0)] [])) _
                refine XS.iloadN X0.here hx rfl (hb hby d1_42) rfl ?_
                show Steps p.tables e below (s₁.setTop (mkF m 43 #[.val (.int p0)] [(.int p0)])) _
                refine X0.ldcInt hx hown (mvT hZ (hw _ (List.mem_of_getElem? (i := 17) rfl))) (g := (mkF m 43 #[.val (.int p0)] [(.int p0)])) rfl (hb hby d1_43) _ ?_
                show Steps p.tables e below (s₁.setTop (mkF m 45 #[.val (.int p0)] [(.int (65536 : Int32)), (.int p0)])) _
                by_cases hc45_6 : p0 < (65536 : Int32)
                · refine XS.icmpYes X0.here hx rfl (pc0 := 45) (pc' := 58) rfl (hb hby d1_45) rfl (tlt hc45_6).1 (by decide) (by decide) ?_
                  show Steps p.tables e below (s₁.setTop (mkF m 58 #[.val (.int p0)] [])) _
                  refine XS.iconst X0.here hx rfl (hb hby d1_58) ?_
                  show Steps p.tables e below (s₁.setTop (mkF m 59 #[.val (.int p0)] [(.int (0 : Int32))])) _
                  have hf : (f_char p0) = (0 : Int32) := by unfold f_char; rw [if_neg hc3_0, if_neg hc9_1, if_neg hc15_2, if_neg hc21_3, if_pos hc27_4, if_pos hc33_5, if_pos hc45_6]
                  rw [hf] at hr
                  exact retN X0 hx (t := .boolean) Bd.returns (by simp) (hb hby d1_59) hr
                · refine XS.icmpNo X0.here hx rfl (hb hby d1_45) rfl (flt hc45_6).1 ?_
                  show Steps p.tables e below (s₁.setTop (mkF m 48 #[.val (.int p0)] [])) _
                  refine XS.iloadN X0.here hx rfl (hb hby d1_48) rfl ?_
                  show Steps p.tables e below (s₁.setTop (mkF m 49 #[.val (.int p0)] [(.int p0)])) _
                  refine X0.ldcInt hx hown (mvT hZ (hw _ (List.mem_of_getElem? (i := 24) rfl))) (g := (mkF m 49 #[.val (.int p0)] [(.int p0)])) rfl (hb hby d1_49) _ ?_
                  show Steps p.tables e below (s₁.setTop (mkF m 51 #[.val (.int p0)] [(.int (1114111 : Int32)), (.int p0)])) _
                  by_cases hc51_7 : (1114111 : Int32) < p0
                  · refine XS.icmpYes X0.here hx rfl (pc0 := 51) (pc' := 58) rfl (hb hby d1_51) rfl (tlt hc51_7).2.2.1 (by decide) (by decide) ?_
                    show Steps p.tables e below (s₁.setTop (mkF m 58 #[.val (.int p0)] [])) _
                    refine XS.iconst X0.here hx rfl (hb hby d1_58) ?_
                    show Steps p.tables e below (s₁.setTop (mkF m 59 #[.val (.int p0)] [(.int (0 : Int32))])) _
                    have hf : (f_char p0) = (0 : Int32) := by unfold f_char; rw [if_neg hc3_0, if_neg hc9_1, if_neg hc15_2, if_neg hc21_3, if_pos hc27_4, if_pos hc33_5, if_neg hc45_6, if_pos hc51_7]
                    rw [hf] at hr
                    exact retN X0 hx (t := .boolean) Bd.returns (by simp) (hb hby d1_59) hr
                  · refine XS.icmpNo X0.here hx rfl (hb hby d1_51) rfl (flt hc51_7).2.2.1 ?_
                    show Steps p.tables e below (s₁.setTop (mkF m 54 #[.val (.int p0)] [])) _
                    refine XS.iconst X0.here hx rfl (hb hby d1_54) ?_
                    show Steps p.tables e below (s₁.setTop (mkF m 55 #[.val (.int p0)] [(.int (1 : Int32))])) _
                    refine XS.goto X0.here hx rfl (pc0 := 55) (pc' := 59) rfl (hb hby d1_55) (by decide) (by decide) ?_
                    show Steps p.tables e below (s₁.setTop (mkF m 59 #[.val (.int p0)] [(.int (1 : Int32))])) _
                    have hf : (f_char p0) = (1 : Int32) := by unfold f_char; rw [if_neg hc3_0, if_neg hc9_1, if_neg hc15_2, if_neg hc21_3, if_pos hc27_4, if_pos hc33_5, if_neg hc45_6, if_neg hc51_7]
                    rw [hf] at hr
                    exact retN X0 hx (t := .boolean) Bd.returns (by simp) (hb hby d1_59) hr
              · refine XS.icmpNo X0.here hx rfl (hb hby d1_33) rfl (flt hc33_5).1 ?_
                show Steps p.tables e below (s₁.setTop (mkF m 36 #[.val (.int p0)] [])) _
                refine XS.iloadN X0.here hx rfl (hb hby d1_36) rfl ?_
                show Steps p.tables e below (s₁.setTop (mkF m 37 #[.val (.int p0)] [(.int p0)])) _
                refine X0.ldcInt hx hown (mvT hZ (hw _ (List.mem_of_getElem? (i := 23) rfl))) (g := (mkF m 37 #[.val (.int p0)] [(.int p0)])) rfl (hb hby d1_37) _ ?_
                show Steps p.tables e below (s₁.setTop (mkF m 39 #[.val (.int p0)] [(.int (65533 : Int32)), (.int p0)])) _
                by_cases hc39_6 : (65533 : Int32) < p0
                · refine XS.icmpNo X0.here hx rfl (hb hby d1_39) rfl (tlt hc39_6).2.2.2 ?_
                  show Steps p.tables e below (s₁.setTop (mkF m 42 #[.val (.int p0)] [])) _
                  refine XS.iloadN X0.here hx rfl (hb hby d1_42) rfl ?_
                  show Steps p.tables e below (s₁.setTop (mkF m 43 #[.val (.int p0)] [(.int p0)])) _
                  refine X0.ldcInt hx hown (mvT hZ (hw _ (List.mem_of_getElem? (i := 17) rfl))) (g := (mkF m 43 #[.val (.int p0)] [(.int p0)])) rfl (hb hby d1_43) _ ?_
                  show Steps p.tables e below (s₁.setTop (mkF m 45 #[.val (.int p0)] [(.int (65536 : Int32)), (.int p0)])) _
                  by_cases hc45_7 : p0 < (65536 : Int32)
                  · refine XS.icmpYes X0.here hx rfl (pc0 := 45) (pc' := 58) rfl (hb hby d1_45) rfl (tlt hc45_7).1 (by decide) (by decide) ?_
                    show Steps p.tables e below (s₁.setTop (mkF m 58 #[.val (.int p0)] [])) _
                    refine XS.iconst X0.here hx rfl (hb hby d1_58) ?_
                    show Steps p.tables e below (s₁.setTop (mkF m 59 #[.val (.int p0)] [(.int (0 : Int32))])) _
                    have hf : (f_char p0) = (0 : Int32) := by unfold f_char; rw [if_neg hc3_0, if_neg hc9_1, if_neg hc15_2, if_neg hc21_3, if_pos hc27_4, if_neg hc33_5, if_pos hc39_6, if_pos hc45_7]
                    rw [hf] at hr
                    exact retN X0 hx (t := .boolean) Bd.returns (by simp) (hb hby d1_59) hr
                  · refine XS.icmpNo X0.here hx rfl (hb hby d1_45) rfl (flt hc45_7).1 ?_
                    show Steps p.tables e below (s₁.setTop (mkF m 48 #[.val (.int p0)] [])) _
                    refine XS.iloadN X0.here hx rfl (hb hby d1_48) rfl ?_
                    show Steps p.tables e below (s₁.setTop (mkF m 49 #[.val (.int p0)] [(.int p0)])) _
                    refine X0.ldcInt hx hown (mvT hZ (hw _ (List.mem_of_getElem? (i := 24) rfl))) (g := (mkF m 49 #[.val (.int p0)] [(.int p0)])) rfl (hb hby d1_49) _ ?_
                    show Steps p.tables e below (s₁.setTop (mkF m 51 #[.val (.int p0)] [(.int (1114111 : Int32)), (.int p0)])) _
                    by_cases hc51_8 : (1114111 : Int32) < p0
                    · refine XS.icmpYes X0.here hx rfl (pc0 := 51) (pc' := 58) rfl (hb hby d1_51) rfl (tlt hc51_8).2.2.1 (by decide) (by decide) ?_
                      show Steps p.tables e below (s₁.setTop (mkF m 58 #[.val (.int p0)] [])) _
                      refine XS.iconst X0.here hx rfl (hb hby d1_58) ?_
                      show Steps p.tables e below (s₁.setTop (mkF m 59 #[.val (.int p0)] [(.int (0 : Int32))])) _
                      have hf : (f_char p0) = (0 : Int32) := by unfold f_char; rw [if_neg hc3_0, if_neg hc9_1, if_neg hc15_2, if_neg hc21_3, if_pos hc27_4, if_neg hc33_5, if_pos hc39_6, if_neg hc45_7, if_pos hc51_8]
                      rw [hf] at hr
                      exact retN X0 hx (t := .boolean) Bd.returns (by simp) (hb hby d1_59) hr
                    · refine XS.icmpNo X0.here hx rfl (hb hby d1_51) rfl (flt hc51_8).2.2.1 ?_
                      show Steps p.tables e below (s₁.setTop (mkF m 54 #[.val (.int p0)] [])) _
                      refine XS.iconst X0.here hx rfl (hb hby d1_54) ?_
                      show Steps p.tables e below (s₁.setTop (mkF m 55 #[.val (.int p0)] [(.int (1 : Int32))])) _
                      refine XS.goto X0.here hx rfl (pc0 := 55) (pc' := 59) rfl (hb hby d1_55) (by decide) (by decide) ?_
                      show Steps p.tables e below (s₁.setTop (mkF m 59 #[.val (.int p0)] [(.int (1 : Int32))])) _
                      have hf : (f_char p0) = (1 : Int32) := by unfold f_char; rw [if_neg hc3_0, if_neg hc9_1, if_neg hc15_2, if_neg hc21_3, if_pos hc27_4, if_neg hc33_5, if_pos hc39_6, if_neg hc45_7, if_neg hc51_8]
                      rw [hf] at hr
                      exact retN X0 hx (t := .boolean) Bd.returns (by simp) (hb hby d1_59) hr
                · refine XS.icmpYes X0.here hx rfl (pc0 := 39) (pc' := 54) rfl (hb hby d1_39) rfl (flt hc39_6).2.2.2 (by decide) (by decide) ?_
                  show Steps p.tables e below (s₁.setTop (mkF m 54 #[.val (.int p0)] [])) _
                  refine XS.iconst X0.here hx rfl (hb hby d1_54) ?_
                  show Steps p.tables e below (s₁.setTop (mkF m 55 #[.val (.int p0)] [(.int (1 : Int32))])) _
                  refine XS.goto X0.here hx rfl (pc0 := 55) (pc' := 59) rfl (hb hby d1_55) (by decide) (by decide) ?_
                  show Steps p.tables e below (s₁.setTop (mkF m 59 #[.val (.int p0)] [(.int (1 : Int32))])) _
                  have hf : (f_char p0) = (1 : Int32) := by unfold f_char; rw [if_neg hc3_0, if_neg hc9_1, if_neg hc15_2, if_neg hc21_3, if_pos hc27_4, if_neg hc33_5, if_neg hc39_6]
                  rw [hf] at hr
                  exact retN X0 hx (t := .boolean) Bd.returns (by simp) (hb hby d1_59) hr
            · refine XS.icmpYes X0.here hx rfl (pc0 := 27) (pc' := 54) rfl (hb hby d1_27) rfl (flt hc27_4).2.2.2 (by decide) (by decide) ?_
              show Steps p.tables e below (s₁.setTop (mkF m 54 #[.val (.int p0)] [])) _
              refine XS.iconst X0.here hx rfl (hb hby d1_54) ?_
              show Steps p.tables e below (s₁.setTop (mkF m 55 #[.val (.int p0)] [(.int (1 : Int32))])) _
              refine XS.goto X0.here hx rfl (pc0 := 55) (pc' := 59) rfl (hb hby d1_55) (by decide) (by decide) ?_
              show Steps p.tables e below (s₁.setTop (mkF m 59 #[.val (.int p0)] [(.int (1 : Int32))])) _
              have hf : (f_char p0) = (1 : Int32) := by unfold f_char; rw [if_neg hc3_0, if_neg hc9_1, if_neg hc15_2, if_neg hc21_3, if_neg hc27_4]
              rw [hf] at hr
              exact retN X0 hx (t := .boolean) Bd.returns (by simp) (hb hby d1_59) hr
  · show Q_char Z p0 h0 n0 _ s₁.heap _
    rw [e0]
    exact ⟨rfl, N0, rfl⟩
theorem d2_0 : decode method_2_code 0 = .ok (.iload_n 0, 1) := by decide +kernel
theorem d2_1 : decode method_2_code 1 = .ok (.bipush 9, 2) := by decide +kernel
theorem d2_3 : decode method_2_code 3 = .ok (.if_icmp .lt 57, 3) := by decide +kernel
theorem d2_6 : decode method_2_code 6 = .ok (.iload_n 0, 1) := by decide +kernel
theorem d2_7 : decode method_2_code 7 = .ok (.bipush 11, 2) := by decide +kernel
theorem d2_9 : decode method_2_code 9 = .ok (.if_icmp .eq 51, 3) := by decide +kernel
theorem d2_12 : decode method_2_code 12 = .ok (.iload_n 0, 1) := by decide +kernel
theorem d2_13 : decode method_2_code 13 = .ok (.bipush 12, 2) := by decide +kernel
theorem d2_15 : decode method_2_code 15 = .ok (.if_icmp .eq 45, 3) := by decide +kernel
theorem d2_18 : decode method_2_code 18 = .ok (.iload_n 0, 1) := by decide +kernel
theorem d2_19 : decode method_2_code 19 = .ok (.bipush 14, 2) := by decide +kernel
theorem d2_21 : decode method_2_code 21 = .ok (.if_icmp .lt 9, 3) := by decide +kernel
theorem d2_24 : decode method_2_code 24 = .ok (.iload_n 0, 1) := by decide +kernel
theorem d2_25 : decode method_2_code 25 = .ok (.bipush 31, 2) := by decide +kernel
theorem d2_27 : decode method_2_code 27 = .ok (.if_icmp .le 33, 3) := by decide +kernel
theorem d2_30 : decode method_2_code 30 = .ok (.iload_n 0, 1) := by decide +kernel
theorem d2_31 : decode method_2_code 31 = .ok (.ldc 7, 2) := by decide +kernel
theorem d2_33 : decode method_2_code 33 = .ok (.if_icmp .lt 9, 3) := by decide +kernel
theorem d2_36 : decode method_2_code 36 = .ok (.iload_n 0, 1) := by decide +kernel
theorem d2_37 : decode method_2_code 37 = .ok (.ldc 8, 2) := by decide +kernel
theorem d2_39 : decode method_2_code 39 = .ok (.if_icmp .le 21, 3) := by decide +kernel
theorem d2_42 : decode method_2_code 42 = .ok (.iload_n 0, 1) := by decide +kernel
theorem d2_43 : decode method_2_code 43 = .ok (.ldc 9, 2) := by decide +kernel
theorem d2_45 : decode method_2_code 45 = .ok (.if_icmp .eq 15, 3) := by decide +kernel
theorem d2_48 : decode method_2_code 48 = .ok (.iload_n 0, 1) := by decide +kernel
theorem d2_49 : decode method_2_code 49 = .ok (.ldc 10, 2) := by decide +kernel
theorem d2_51 : decode method_2_code 51 = .ok (.if_icmp .eq 9, 3) := by decide +kernel
theorem d2_54 : decode method_2_code 54 = .ok (.iload_n 0, 1) := by decide +kernel
theorem d2_55 : decode method_2_code 55 = .ok (.ldc 11, 2) := by decide +kernel
theorem d2_57 : decode method_2_code 57 = .ok (.if_icmp .le 7, 3) := by decide +kernel
theorem d2_60 : decode method_2_code 60 = .ok (.iconst 1, 1) := by decide +kernel
theorem d2_61 : decode method_2_code 61 = .ok (.goto 4, 3) := by decide +kernel
theorem d2_64 : decode method_2_code 64 = .ok (.iconst 0, 1) := by decide +kernel
theorem d2_65 : decode method_2_code 65 = .ok (.istore_n 1, 1) := by decide +kernel
theorem d2_66 : decode method_2_code 66 = .ok (.iload_n 1, 1) := by decide +kernel
theorem d2_67 : decode method_2_code 67 = .ok (.ifCond .ne 7, 3) := by decide +kernel
theorem d2_70 : decode method_2_code 70 = .ok (.iconst 1, 1) := by decide +kernel
theorem d2_71 : decode method_2_code 71 = .ok (.goto 4, 3) := by decide +kernel
theorem d2_74 : decode method_2_code 74 = .ok (.iconst 0, 1) := by decide +kernel
theorem d2_75 : decode method_2_code 75 = .ok (.ireturn, 1) := by decide +kernel
theorem pn_ref : plainName "com/example/ostravice/ostravice/value/XmlCharsIsCharPinLaw" = true := by first | (simp [plainName, overriddenIn]; done) | decide +kernel
theorem ef_ref (m : MethodId) (p0 : Int32) : entryFrame m #[(.int p0)] 2 = mkF m 0 #[.val (.int p0), .unset] [] := by first | (simp [entryFrame, mkF, argsToLocals, Value.category]; done) | rfl
def f_ref (p0 : Int32) : Int32 := (if p0 < (9 : Int32) then (0 : Int32) else (if p0 = (11 : Int32) then (0 : Int32) else (if p0 = (12 : Int32) then (0 : Int32) else (if p0 < (14 : Int32) then (if p0 < (55296 : Int32) then (if p0 = (65534 : Int32) then (0 : Int32) else (if p0 = (65535 : Int32) then (0 : Int32) else (if (1114111 : Int32) < p0 then (0 : Int32) else (1 : Int32)))) else (if (57343 : Int32) < p0 then (if p0 = (65534 : Int32) then (0 : Int32) else (if p0 = (65535 : Int32) then (0 : Int32) else (if (1114111 : Int32) < p0 then (0 : Int32) else (1 : Int32)))) else (0 : Int32))) else (if (31 : Int32) < p0 then (if p0 < (55296 : Int32) then (if p0 = (65534 : Int32) then (0 : Int32) else (if p0 = (65535 : Int32) then (0 : Int32) else (if (1114111 : Int32) < p0 then (0 : Int32) else (1 : Int32)))) else (if (57343 : Int32) < p0 then (if p0 = (65534 : Int32) then (0 : Int32) else (if p0 = (65535 : Int32) then (0 : Int32) else (if (1114111 : Int32) < p0 then (0 : Int32) else (1 : Int32)))) else (0 : Int32))) else (0 : Int32))))))
def Q_ref (Z : State) (p0 : Int32) (h0 : Heap) (n0 : Nat) (v : Option Value) (h : Heap) (L : List Loc) : Prop := v = some (.int (f_ref p0)) ∧ Fr n0 L ∧ h = h0
set_option maxRecDepth 65536 in
set_option maxHeartbeats 40000000 in
theorem rm_ref (l : Launch) (Z : State) (a0 : Array Value) (hw : ∀ d ∈ tables_1, d.before a0 Z = true) (ws : List Jvm.Cond) (p0 : Int32) (h0 : Heap) (n0 : Nat) (Z0 : n0 ≤ h0.size) :
    MetFree l (⟨"com/example/ostravice/ostravice/value/XmlCharsIsCharPinLaw", "reference", "(I)Z"⟩ : MethodName) (head1 (Jvm.Cond.code (⟨"com/example/ostravice/ostravice/value/XmlCharsIsCharPinLaw", "reference", "(I)Z"⟩ : MethodName) method_2_code 2 (some .boolean) :: ws) ({ frames := 0, cells := 0, slots := 0, locals := 0 } : Room)) (fun a U => a = #[(.int p0)] ∧ Z.Warmed39 U.vm ∧ U.heap = h0) (fun _ _ _ _ _ => True) (fun _ U o U' => ∃ v L, o = .returned v ∧ Q_ref Z p0 h0 n0 v U'.heap L ∧ FrameEnd U o U' L ({ frames := 0, cells := 0, slots := 0, locals := 0 } : Room).cells ({ frames := 0, cells := 0, slots := 0, locals := 0 } : Room).slots) := by
  refine MetFree.of_bodySF (plainFor_of_name pn_ref) hisR ?_
  intro p e s m args below meth c s₁ Bd hml0 hP hK
  obtain ⟨rfl, hZ, hh⟩ := hP
  have hx := Bd.exec
  have hby := Bd.bytes
  have hml : c.maxLocals = 2 := hml0
  have hown : s.vm.findClass "com/example/ostravice/ostravice/value/XmlCharsIsCharPinLaw" = some m.cls := findClass_of_methodNamed Bd.named
  have hnm := (name_of_methodNamed Bd.named Bd.method).1
  have X0 : Stand p l e ({ frames := 0, cells := 0, slots := 0, locals := 0 } : Room) s m #[(.int p0)] below meth c s₁ [] 0 0 := Stand.of_body Bd
  have e0 : s₁.heap = h0 := by rw [← hh, Bd.state]; rfl
  have N0 := Fr.nil n0
  have pre0 : ∀ tg, Steps p.tables e below (s₁.setTop (mkF m 0 #[.val (.int p0), .unset] [])) tg → Steps p.tables e below (s₁.setTop (entryFrame m #[(.int p0)] 2)) tg := fun tg kg => castTop (ef_ref m p0) kg
  obtain ⟨fs, hr, hrun, hended, hW, hsame⟩ := X0.leave (v := some (.int (f_ref p0))) (fun h => by rw [Bd.returns] at h; cases h)
  refine ⟨_, _, pre0 _ ?_, hrun, hended, _, _, rfl, ?_, ⟨_, rfl⟩, hW, hsame.mono (by decide) (by decide)⟩
  · show Steps p.tables e below (s₁.setTop (mkF m 0 #[.val (.int p0), .unset] [])) _
    refine XS.iloadN X0.here hx rfl (hb hby d2_0) rfl ?_
    show Steps p.tables e below (s₁.setTop (mkF m 1 #[.val (.int p0), .unset] [(.int p0)])) _
    refine XS.bipush X0.here hx rfl (hb hby d2_1) ?_
    show Steps p.tables e below (s₁.setTop (mkF m 3 #[.val (.int p0), .unset] [(.int (9 : Int32)), (.int p0)])) _
    by_cases hc3_0 : p0 < (9 : Int32)
    · refine XS.icmpYes X0.here hx rfl (pc0 := 3) (pc' := 60) rfl (hb hby d2_3) rfl (tlt hc3_0).1 (by decide) (by decide) ?_
      show Steps p.tables e below (s₁.setTop (mkF m 60 #[.val (.int p0), .unset] [])) _
      refine XS.iconst X0.here hx rfl (hb hby d2_60) ?_
      show Steps p.tables e below (s₁.setTop (mkF m 61 #[.val (.int p0), .unset] [(.int (1 : Int32))])) _
      refine XS.goto X0.here hx rfl (pc0 := 61) (pc' := 65) rfl (hb hby d2_61) (by decide) (by decide) ?_
      show Steps p.tables e below (s₁.setTop (mkF m 65 #[.val (.int p0), .unset] [(.int (1 : Int32))])) _
      refine XS.istoreN X0.here hx rfl (hb hby d2_65) rfl (l' := #[.val (.int p0), .val (.int (1 : Int32))]) rfl ?_
      show Steps p.tables e below (s₁.setTop (mkF m 66 #[.val (.int p0), .val (.int (1 : Int32))] [])) _
      refine XS.iloadN X0.here hx rfl (hb hby d2_66) rfl ?_
      show Steps p.tables e below (s₁.setTop (mkF m 67 #[.val (.int p0), .val (.int (1 : Int32))] [(.int (1 : Int32))])) _
      refine XS.ifYes X0.here hx rfl (pc0 := 67) (pc' := 74) rfl (hb hby d2_67) rfl ((if0 _ _).trans (feq (by decide : ¬ ((1 : Int32) = (0 : Int32)))).2) (by decide) (by decide) ?_
      show Steps p.tables e below (s₁.setTop (mkF m 74 #[.val (.int p0), .val (.int (1 : Int32))] [])) _
      refine XS.iconst X0.here hx rfl (hb hby d2_74) ?_
      show Steps p.tables e below (s₁.setTop (mkF m 75 #[.val (.int p0), .val (.int (1 : Int32))] [(.int (0 : Int32))])) _
      have hf : (f_ref p0) = (0 : Int32) := by unfold f_ref; rw [if_pos hc3_0]
      rw [hf] at hr
      exact retN X0 hx (t := .boolean) Bd.returns (by simp) (hb hby d2_75) hr
    · refine XS.icmpNo X0.here hx rfl (hb hby d2_3) rfl (flt hc3_0).1 ?_
      show Steps p.tables e below (s₁.setTop (mkF m 6 #[.val (.int p0), .unset] [])) _
      refine XS.iloadN X0.here hx rfl (hb hby d2_6) rfl ?_
      show Steps p.tables e below (s₁.setTop (mkF m 7 #[.val (.int p0), .unset] [(.int p0)])) _
      refine XS.bipush X0.here hx rfl (hb hby d2_7) ?_
      show Steps p.tables e below (s₁.setTop (mkF m 9 #[.val (.int p0), .unset] [(.int (11 : Int32)), (.int p0)])) _
      by_cases hc9_1 : p0 = (11 : Int32)
      · refine XS.icmpYes X0.here hx rfl (pc0 := 9) (pc' := 60) rfl (hb hby d2_9) rfl (teq hc9_1).1 (by decide) (by decide) ?_
        show Steps p.tables e below (s₁.setTop (mkF m 60 #[.val (.int p0), .unset] [])) _
        refine XS.iconst X0.here hx rfl (hb hby d2_60) ?_
        show Steps p.tables e below (s₁.setTop (mkF m 61 #[.val (.int p0), .unset] [(.int (1 : Int32))])) _
        refine XS.goto X0.here hx rfl (pc0 := 61) (pc' := 65) rfl (hb hby d2_61) (by decide) (by decide) ?_
        show Steps p.tables e below (s₁.setTop (mkF m 65 #[.val (.int p0), .unset] [(.int (1 : Int32))])) _
        refine XS.istoreN X0.here hx rfl (hb hby d2_65) rfl (l' := #[.val (.int p0), .val (.int (1 : Int32))]) rfl ?_
        show Steps p.tables e below (s₁.setTop (mkF m 66 #[.val (.int p0), .val (.int (1 : Int32))] [])) _
        refine XS.iloadN X0.here hx rfl (hb hby d2_66) rfl ?_
        show Steps p.tables e below (s₁.setTop (mkF m 67 #[.val (.int p0), .val (.int (1 : Int32))] [(.int (1 : Int32))])) _
        refine XS.ifYes X0.here hx rfl (pc0 := 67) (pc' := 74) rfl (hb hby d2_67) rfl ((if0 _ _).trans (feq (by decide : ¬ ((1 : Int32) = (0 : Int32)))).2) (by decide) (by decide) ?_
        show Steps p.tables e below (s₁.setTop (mkF m 74 #[.val (.int p0), .val (.int (1 : Int32))] [])) _
        refine XS.iconst X0.here hx rfl (hb hby d2_74) ?_
        show Steps p.tables e below (s₁.setTop (mkF m 75 #[.val (.int p0), .val (.int (1 : Int32))] [(.int (0 : Int32))])) _
        have hf : (f_ref p0) = (0 : Int32) := by unfold f_ref; rw [if_neg hc3_0, if_pos hc9_1]
        rw [hf] at hr
        exact retN X0 hx (t := .boolean) Bd.returns (by simp) (hb hby d2_75) hr
      · refine XS.icmpNo X0.here hx rfl (hb hby d2_9) rfl (feq hc9_1).1 ?_
        show Steps p.tables e below (s₁.setTop (mkF m 12 #[.val (.int p0), .unset] [])) _
        refine XS.iloadN X0.here hx rfl (hb hby d2_12) rfl ?_
        show Steps p.tables e below (s₁.setTop (mkF m 13 #[.val (.int p0), .unset] [(.int p0)])) _
        refine XS.bipush X0.here hx rfl (hb hby d2_13) ?_
        show Steps p.tables e below (s₁.setTop (mkF m 15 #[.val (.int p0), .unset] [(.int (12 : Int32)), (.int p0)])) _
        by_cases hc15_2 : p0 = (12 : Int32)
        · refine XS.icmpYes X0.here hx rfl (pc0 := 15) (pc' := 60) rfl (hb hby d2_15) rfl (teq hc15_2).1 (by decide) (by decide) ?_
          show Steps p.tables e below (s₁.setTop (mkF m 60 #[.val (.int p0), .unset] [])) _
          refine XS.iconst X0.here hx rfl (hb hby d2_60) ?_
          show Steps p.tables e below (s₁.setTop (mkF m 61 #[.val (.int p0), .unset] [(.int (1 : Int32))])) _
          refine XS.goto X0.here hx rfl (pc0 := 61) (pc' := 65) rfl (hb hby d2_61) (by decide) (by decide) ?_
          show Steps p.tables e below (s₁.setTop (mkF m 65 #[.val (.int p0), .unset] [(.int (1 : Int32))])) _
          refine XS.istoreN X0.here hx rfl (hb hby d2_65) rfl (l' := #[.val (.int p0), .val (.int (1 : Int32))]) rfl ?_
          show Steps p.tables e below (s₁.setTop (mkF m 66 #[.val (.int p0), .val (.int (1 : Int32))] [])) _
          refine XS.iloadN X0.here hx rfl (hb hby d2_66) rfl ?_
          show Steps p.tables e below (s₁.setTop (mkF m 67 #[.val (.int p0), .val (.int (1 : Int32))] [(.int (1 : Int32))])) _
          refine XS.ifYes X0.here hx rfl (pc0 := 67) (pc' := 74) rfl (hb hby d2_67) rfl ((if0 _ _).trans (feq (by decide : ¬ ((1 : Int32) = (0 : Int32)))).2) (by decide) (by decide) ?_
          show Steps p.tables e below (s₁.setTop (mkF m 74 #[.val (.int p0), .val (.int (1 : Int32))] [])) _
          refine XS.iconst X0.here hx rfl (hb hby d2_74) ?_
          show Steps p.tables e below (s₁.setTop (mkF m 75 #[.val (.int p0), .val (.int (1 : Int32))] [(.int (0 : Int32))])) _
          have hf : (f_ref p0) = (0 : Int32) := by unfold f_ref; rw [if_neg hc3_0, if_neg hc9_1, if_pos hc15_2]
          rw [hf] at hr
          exact retN X0 hx (t := .boolean) Bd.returns (by simp) (hb hby d2_75) hr
        · refine XS.icmpNo X0.here hx rfl (hb hby d2_15) rfl (feq hc15_2).1 ?_
          show Steps p.tables e below (s₁.setTop (mkF m 18 #[.val (.int p0), .unset] [])) _
          refine XS.iloadN X0.here hx rfl (hb hby d2_18) rfl ?_
          show Steps p.tables e below (s₁.setTop (mkF m 19 #[.val (.int p0), .unset] [(.int p0)])) _
          refine XS.bipush X0.here hx rfl (hb hby d2_19) ?_
          show Steps p.tables e below (s₁.setTop (mkF m 21 #[.val (.int p0), .unset] [(.int (14 : Int32)), (.int p0)])) _
          by_cases hc21_3 : p0 < (14 : Int32)
          · refine XS.icmpYes X0.here hx rfl (pc0 := 21) (pc' := 30) rfl (hb hby d2_21) rfl (tlt hc21_3).1 (by decide) (by decide) ?_
            show Steps p.tables e below (s₁.setTop (mkF m 30 #[.val (.int p0), .unset] [])) _
            refine XS.iloadN X0.here hx rfl (hb hby d2_30) rfl ?_
            show Steps p.tables e below (s₁.setTop (mkF m 31 #[.val (.int p0), .unset] [(.int p0)])) _
            refine X0.ldcInt hx hown (mvT hZ (hw _ (List.mem_of_getElem? (i := 2) rfl))) (g := (mkF m 31 #[.val (.int p0), .unset] [(.int p0)])) rfl (hb hby d2_31) _ ?_
            show Steps p.tables e below (s₁.setTop (mkF m 33 #[.val (.int p0), .unset] [(.int (55296 : Int32)), (.int p0)])) _
            by_cases hc33_4 : p0 < (55296 : Int32)
            · refine XS.icmpYes X0.here hx rfl (pc0 := 33) (pc' := 42) rfl (hb hby d2_33) rfl (tlt hc33_4).1 (by decide) (by decide) ?_
              show Steps p.tables e below (s₁.setTop (mkF m 42 #[.val (.int p0), .unset] [])) _
              refine XS.iloadN X0.here hx rfl (hb hby d2_42) rfl ?_
              show Steps p.tables e below (s₁.setTop (mkF m 43 #[.val (.int p0), .unset] [(.int p0)])) _
              refine X0.ldcInt hx hown (mvT hZ (hw _ (List.mem_of_getElem? (i := 6) rfl))) (g := (mkF m 43 #[.val (.int p0), .unset] [(.int p0)])) rfl (hb hby d2_43) _ ?_
              show Steps p.tables e below (s₁.setTop (mkF m 45 #[.val (.int p0), .unset] [(.int (65534 : Int32)), (.int p0)])) _
              by_cases hc45_5 : p0 = (65534 : Int32)
              · refine XS.icmpYes X0.here hx rfl (pc0 := 45) (pc' := 60) rfl (hb hby d2_45) rfl (teq hc45_5).1 (by decide) (by decide) ?_
                show Steps p.tables e below (s₁.setTop (mkF m 60 #[.val (.int p0), .unset] [])) _
                refine XS.iconst X0.here hx rfl (hb hby d2_60) ?_
                show Steps p.tables e below (s₁.setTop (mkF m 61 #[.val (.int p0), .unset] [(.int (1 : Int32))])) _
                refine XS.goto X0.here hx rfl (pc0 := 61) (pc' := 65) rfl (hb hby d2_61) (by decide) (by decide) ?_
                show Steps p.tables e below (s₁.setTop (mkF m 65 #[.val (.int p0), .unset] [(.int (1 : Int32))])) _
                refine XS.istoreN X0.here hx rfl (hb hby d2_65) rfl (l' := #[.val (.int p0), .val (.int (1 : Int32))]) rfl ?_
                show Steps p.tables e below (s₁.setTop (mkF m 66 #[.val (.int p0), .val (.int (1 : Int32))] [])) _
                refine XS.iloadN X0.here hx rfl (hb hby d2_66) rfl ?_
                show Steps p.tables e below (s₁.setTop (mkF m 67 #[.val (.int p0), .val (.int (1 : Int32))] [(.int (1 : Int32))])) _
                refine XS.ifYes X0.here hx rfl (pc0 := 67) (pc' := 74) rfl (hb hby d2_67) rfl ((if0 _ _).trans (feq (by decide : ¬ ((1 : Int32) = (0 : Int32)))).2) (by decide) (by decide) ?_
                show Steps p.tables e below (s₁.setTop (mkF m 74 #[.val (.int p0), .val (.int (1 : Int32))] [])) _
                refine XS.iconst X0.here hx rfl (hb hby d2_74) ?_
                show Steps p.tables e below (s₁.setTop (mkF m 75 #[.val (.int p0), .val (.int (1 : Int32))] [(.int (0 : Int32))])) _
                have hf : (f_ref p0) = (0 : Int32) := by unfold f_ref; rw [if_neg hc3_0, if_neg hc9_1, if_neg hc15_2, if_pos hc21_3, if_pos hc33_4, if_pos hc45_5]
                rw [hf] at hr
                exact retN X0 hx (t := .boolean) Bd.returns (by simp) (hb hby d2_75) hr
              · refine XS.icmpNo X0.here hx rfl (hb hby d2_45) rfl (feq hc45_5).1 ?_
                show Steps p.tables e below (s₁.setTop (mkF m 48 #[.val (.int p0), .unset] [])) _
                refine XS.iloadN X0.here hx rfl (hb hby d2_48) rfl ?_
                show Steps p.tables e below (s₁.setTop (mkF m 49 #[.val (.int p0), .unset] [(.int p0)])) _
                refine X0.ldcInt hx hown (mvT hZ (hw _ (List.mem_of_getElem? (i := 7) rfl))) (g := (mkF m 49 #[.val (.int p0), .unset] [(.int p0)])) rfl (hb hby d2_49) _ ?_
                show Steps p.tables e below (s₁.setTop (mkF m 51 #[.val (.int p0), .unset] [(.int (65535 : Int32)), (.int p0)])) _
                by_cases hc51_6 : p0 = (65535 : Int32)
                · refine XS.icmpYes X0.here hx rfl (pc0 := 51) (pc' := 60) rfl (hb hby d2_51) rfl (teq hc51_6).1 (by decide) (by decide) ?_
                  show Steps p.tables e below (s₁.setTop (mkF m 60 #[.val (.int p0), .unset] [])) _
                  refine XS.iconst X0.here hx rfl (hb hby d2_60) ?_
                  show Steps p.tables e below (s₁.setTop (mkF m 61 #[.val (.int p0), .unset] [(.int (1 : Int32))])) _
                  refine XS.goto X0.here hx rfl (pc0 := 61) (pc' := 65) rfl (hb hby d2_61) (by decide) (by decide) ?_
                  show Steps p.tables e below (s₁.setTop (mkF m 65 #[.val (.int p0), .unset] [(.int (1 : Int32))])) _
                  refine XS.istoreN X0.here hx rfl (hb hby d2_65) rfl (l' := #[.val (.int p0), .val (.int (1 : Int32))]) rfl ?_
                  show Steps p.tables e below (s₁.setTop (mkF m 66 #[.val (.int p0), .val (.int (1 : Int32))] [])) _
                  refine XS.iloadN X0.here hx rfl (hb hby d2_66) rfl ?_
                  show Steps p.tables e below (s₁.setTop (mkF m 67 #[.val (.int p0), .val (.int (1 : Int32))] [(.int (1 : Int32))])) _
                  refine XS.ifYes X0.here hx rfl (pc0 := 67) (pc' := 74) rfl (hb hby d2_67) rfl ((if0 _ _).trans (feq (by decide : ¬ ((1 : Int32) = (0 : Int32)))).2) (by decide) (by decide) ?_
                  show Steps p.tables e below (s₁.setTop (mkF m 74 #[.val (.int p0), .val (.int (1 : Int32))] [])) _
                  refine XS.iconst X0.here hx rfl (hb hby d2_74) ?_
                  show Steps p.tables e below (s₁.setTop (mkF m 75 #[.val (.int p0), .val (.int (1 : Int32))] [(.int (0 : Int32))])) _
                  have hf : (f_ref p0) = (0 : Int32) := by unfold f_ref; rw [if_neg hc3_0, if_neg hc9_1, if_neg hc15_2, if_pos hc21_3, if_pos hc33_4, if_neg hc45_5, if_pos hc51_6]
                  rw [hf] at hr
                  exact retN X0 hx (t := .boolean) Bd.returns (by simp) (hb hby d2_75) hr
                · refine XS.icmpNo X0.here hx rfl (hb hby d2_51) rfl (feq hc51_6).1 ?_
                  show Steps p.tables e below (s₁.setTop (mkF m 54 #[.val (.int p0), .unset] [])) _
                  refine XS.iloadN X0.here hx rfl (hb hby d2_54) rfl ?_
                  show Steps p.tables e below (s₁.setTop (mkF m 55 #[.val (.int p0), .unset] [(.int p0)])) _
                  refine X0.ldcInt hx hown (mvT hZ (hw _ (List.mem_of_getElem? (i := 9) rfl))) (g := (mkF m 55 #[.val (.int p0), .unset] [(.int p0)])) rfl (hb hby d2_55) _ ?_
                  show Steps p.tables e below (s₁.setTop (mkF m 57 #[.val (.int p0), .unset] [(.int (1114111 : Int32)), (.int p0)])) _
                  by_cases hc57_7 : (1114111 : Int32) < p0
                  · refine XS.icmpNo X0.here hx rfl (hb hby d2_57) rfl (tlt hc57_7).2.2.2 ?_
                    show Steps p.tables e below (s₁.setTop (mkF m 60 #[.val (.int p0), .unset] [])) _
                    refine XS.iconst X0.here hx rfl (hb hby d2_60) ?_
                    show Steps p.tables e below (s₁.setTop (mkF m 61 #[.val (.int p0), .unset] [(.int (1 : Int32))])) _
                    refine XS.goto X0.here hx rfl (pc0 := 61) (pc' := 65) rfl (hb hby d2_61) (by decide) (by decide) ?_
                    show Steps p.tables e below (s₁.setTop (mkF m 65 #[.val (.int p0), .unset] [(.int (1 : Int32))])) _
                    refine XS.istoreN X0.here hx rfl (hb hby d2_65) rfl (l' := #[.val (.int p0), .val (.int (1 : Int32))]) rfl ?_
                    show Steps p.tables e below (s₁.setTop (mkF m 66 #[.val (.int p0), .val (.int (1 : Int32))] [])) _
                    refine XS.iloadN X0.here hx rfl (hb hby d2_66) rfl ?_
                    show Steps p.tables e below (s₁.setTop (mkF m 67 #[.val (.int p0), .val (.int (1 : Int32))] [(.int (1 : Int32))])) _
                    refine XS.ifYes X0.here hx rfl (pc0 := 67) (pc' := 74) rfl (hb hby d2_67) rfl ((if0 _ _).trans (feq (by decide : ¬ ((1 : Int32) = (0 : Int32)))).2) (by decide) (by decide) ?_
                    show Steps p.tables e below (s₁.setTop (mkF m 74 #[.val (.int p0), .val (.int (1 : Int32))] [])) _
                    refine XS.iconst X0.here hx rfl (hb hby d2_74) ?_
                    show Steps p.tables e below (s₁.setTop (mkF m 75 #[.val (.int p0), .val (.int (1 : Int32))] [(.int (0 : Int32))])) _
                    have hf : (f_ref p0) = (0 : Int32) := by unfold f_ref; rw [if_neg hc3_0, if_neg hc9_1, if_neg hc15_2, if_pos hc21_3, if_pos hc33_4, if_neg hc45_5, if_neg hc51_6, if_pos hc57_7]
                    rw [hf] at hr
                    exact retN X0 hx (t := .boolean) Bd.returns (by simp) (hb hby d2_75) hr
                  · refine XS.icmpYes X0.here hx rfl (pc0 := 57) (pc' := 64) rfl (hb hby d2_57) rfl (flt hc57_7).2.2.2 (by decide) (by decide) ?_
                    show Steps p.tables e below (s₁.setTop (mkF m 64 #[.val (.int p0), .unset] [])) _
                    refine XS.iconst X0.here hx rfl (hb hby d2_64) ?_
                    show Steps p.tables e below (s₁.setTop (mkF m 65 #[.val (.int p0), .unset] [(.int (0 : Int32))])) _
                    refine XS.istoreN X0.here hx rfl (hb hby d2_65) rfl (l' := #[.val (.int p0), .val (.int (0 : Int32))]) rfl ?_
                    show Steps p.tables e below (s₁.setTop (mkF m 66 #[.val (.int p0), .val (.int (0 : Int32))] [])) _
                    refine XS.iloadN X0.here hx rfl (hb hby d2_66) rfl ?_
                    show Steps p.tables e below (s₁.setTop (mkF m 67 #[.val (.int p0), .val (.int (0 : Int32))] [(.int (0 : Int32))])) _
                    refine XS.ifNo X0.here hx rfl (hb hby d2_67) rfl ((if0 _ _).trans (teq (by decide : (0 : Int32) = (0 : Int32))).2) ?_
                    show Steps p.tables e below (s₁.setTop (mkF m 70 #[.val (.int p0), .val (.int (0 : Int32))] [])) _
                    refine XS.iconst X0.here hx rfl (hb hby d2_70) ?_
                    show Steps p.tables e below (s₁.setTop (mkF m 71 #[.val (.int p0), .val (.int (0 : Int32))] [(.int (1 : Int32))])) _
                    refine XS.goto X0.here hx rfl (pc0 := 71) (pc' := 75) rfl (hb hby d2_71) (by decide) (by decide) ?_
                    show Steps p.tables e below (s₁.setTop (mkF m 75 #[.val (.int p0), .val (.int (0 : Int32))] [(.int (1 : Int32))])) _
                    have hf : (f_ref p0) = (1 : Int32) := by unfold f_ref; rw [if_neg hc3_0, if_neg hc9_1, if_neg hc15_2, if_pos hc21_3, if_pos hc33_4, if_neg hc45_5, if_neg hc51_6, if_neg hc57_7]
                    rw [hf] at hr
                    exact retN X0 hx (t := .boolean) Bd.returns (by simp) (hb hby d2_75) hr
            · refine XS.icmpNo X0.here hx rfl (hb hby d2_33) rfl (flt hc33_4).1 ?_
              show Steps p.tables e below (s₁.setTop (mkF m 36 #[.val (.int p0), .unset] [])) _
              refine XS.iloadN X0.here hx rfl (hb hby d2_36) rfl ?_
              show Steps p.tables e below (s₁.setTop (mkF m 37 #[.val (.int p0), .unset] [(.int p0)])) _
              refine X0.ldcInt hx hown (mvT hZ (hw _ (List.mem_of_getElem? (i := 3) rfl))) (g := (mkF m 37 #[.val (.int p0), .unset] [(.int p0)])) rfl (hb hby d2_37) _ ?_
              show Steps p.tables e below (s₁.setTop (mkF m 39 #[.val (.int p0), .unset] [(.int (57343 : Int32)), (.int p0)])) _
              by_cases hc39_5 : (57343 : Int32) < p0
              · refine XS.icmpNo X0.here hx rfl (hb hby d2_39) rfl (tlt hc39_5).2.2.2 ?_
                show Steps p.tables e below (s₁.setTop (mkF m 42 #[.val (.int p0), .unset] [])) _
                refine XS.iloadN X0.here hx rfl (hb hby d2_42) rfl ?_
                show Steps p.tables e below (s₁.setTop (mkF m 43 #[.val (.int p0), .unset] [(.int p0)])) _
                refine X0.ldcInt hx hown (mvT hZ (hw _ (List.mem_of_getElem? (i := 6) rfl))) (g := (mkF m 43 #[.val (.int p0), .unset] [(.int p0)])) rfl (hb hby d2_43) _ ?_
                show Steps p.tables e below (s₁.setTop (mkF m 45 #[.val (.int p0), .unset] [(.int (65534 : Int32)), (.int p0)])) _
                by_cases hc45_6 : p0 = (65534 : Int32)
                · refine XS.icmpYes X0.here hx rfl (pc0 := 45) (pc' := 60) rfl (hb hby d2_45) rfl (teq hc45_6).1 (by decide) (by decide) ?_
                  show Steps p.tables e below (s₁.setTop (mkF m 60 #[.val (.int p0), .unset] [])) _
                  refine XS.iconst X0.here hx rfl (hb hby d2_60) ?_
                  show Steps p.tables e below (s₁.setTop (mkF m 61 #[.val (.int p0), .unset] [(.int (1 : Int32))])) _
                  refine XS.goto X0.here hx rfl (pc0 := 61) (pc' := 65) rfl (hb hby d2_61) (by decide) (by decide) ?_
                  show Steps p.tables e below (s₁.setTop (mkF m 65 #[.val (.int p0), .unset] [(.int (1 : Int32))])) _
                  refine XS.istoreN X0.here hx rfl (hb hby d2_65) rfl (l' := #[.val (.int p0), .val (.int (1 : Int32))]) rfl ?_
                  show Steps p.tables e below (s₁.setTop (mkF m 66 #[.val (.int p0), .val (.int (1 : Int32))] [])) _
                  refine XS.iloadN X0.here hx rfl (hb hby d2_66) rfl ?_
                  show Steps p.tables e below (s₁.setTop (mkF m 67 #[.val (.int p0), .val (.int (1 : Int32))] [(.int (1 : Int32))])) _
                  refine XS.ifYes X0.here hx rfl (pc0 := 67) (pc' := 74) rfl (hb hby d2_67) rfl ((if0 _ _).trans (feq (by decide : ¬ ((1 : Int32) = (0 : Int32)))).2) (by decide) (by decide) ?_
                  show Steps p.tables e below (s₁.setTop (mkF m 74 #[.val (.int p0), .val (.int (1 : Int32))] [])) _
                  refine XS.iconst X0.here hx rfl (hb hby d2_74) ?_
                  show Steps p.tables e below (s₁.setTop (mkF m 75 #[.val (.int p0), .val (.int (1 : Int32))] [(.int (0 : Int32))])) _
                  have hf : (f_ref p0) = (0 : Int32) := by unfold f_ref; rw [if_neg hc3_0, if_neg hc9_1, if_neg hc15_2, if_pos hc21_3, if_neg hc33_4, if_pos hc39_5, if_pos hc45_6]
                  rw [hf] at hr
                  exact retN X0 hx (t := .boolean) Bd.returns (by simp) (hb hby d2_75) hr
                · refine XS.icmpNo X0.here hx rfl (hb hby d2_45) rfl (feq hc45_6).1 ?_
                  show Steps p.tables e below (s₁.setTop (mkF m 48 #[.val (.int p0), .unset] [])) _
                  refine XS.iloadN X0.here hx rfl (hb hby d2_48) rfl ?_
                  show Steps p.tables e below (s₁.setTop (mkF m 49 #[.val (.int p0), .unset] [(.int p0)])) _
                  refine X0.ldcInt hx hown (mvT hZ (hw _ (List.mem_of_getElem? (i := 7) rfl))) (g := (mkF m 49 #[.val (.int p0), .unset] [(.int p0)])) rfl (hb hby d2_49) _ ?_
                  show Steps p.tables e below (s₁.setTop (mkF m 51 #[.val (.int p0), .unset] [(.int (65535 : Int32)), (.int p0)])) _
                  by_cases hc51_7 : p0 = (65535 : Int32)
                  · refine XS.icmpYes X0.here hx rfl (pc0 := 51) (pc' := 60) rfl (hb hby d2_51) rfl (teq hc51_7).1 (by decide) (by decide) ?_
                    show Steps p.tables e below (s₁.setTop (mkF m 60 #[.val (.int p0), .unset] [])) _
                    refine XS.iconst X0.here hx rfl (hb hby d2_60) ?_
                    show Steps p.tables e below (s₁.setTop (mkF m 61 #[.val (.int p0), .unset] [(.int (1 : Int32))])) _
                    refine XS.goto X0.here hx rfl (pc0 := 61) (pc' := 65) rfl (hb hby d2_61) (by decide) (by decide) ?_
                    show Steps p.tables e below (s₁.setTop (mkF m 65 #[.val (.int p0), .unset] [(.int (1 : Int32))])) _
                    refine XS.istoreN X0.here hx rfl (hb hby d2_65) rfl (l' := #[.val (.int p0), .val (.int (1 : Int32))]) rfl ?_
                    show Steps p.tables e below (s₁.setTop (mkF m 66 #[.val (.int p0), .val (.int (1 : Int32))] [])) _
                    refine XS.iloadN X0.here hx rfl (hb hby d2_66) rfl ?_
                    show Steps p.tables e below (s₁.setTop (mkF m 67 #[.val (.int p0), .val (.int (1 : Int32))] [(.int (1 : Int32))])) _
                    refine XS.ifYes X0.here hx rfl (pc0 := 67) (pc' := 74) rfl (hb hby d2_67) rfl ((if0 _ _).trans (feq (by decide : ¬ ((1 : Int32) = (0 : Int32)))).2) (by decide) (by decide) ?_
                    show Steps p.tables e below (s₁.setTop (mkF m 74 #[.val (.int p0), .val (.int (1 : Int32))] [])) _
                    refine XS.iconst X0.here hx rfl (hb hby d2_74) ?_
                    show Steps p.tables e below (s₁.setTop (mkF m 75 #[.val (.int p0), .val (.int (1 : Int32))] [(.int (0 : Int32))])) _
                    have hf : (f_ref p0) = (0 : Int32) := by unfold f_ref; rw [if_neg hc3_0, if_neg hc9_1, if_neg hc15_2, if_pos hc21_3, if_neg hc33_4, if_pos hc39_5, if_neg hc45_6, if_pos hc51_7]
                    rw [hf] at hr
                    exact retN X0 hx (t := .boolean) Bd.returns (by simp) (hb hby d2_75) hr
                  · refine XS.icmpNo X0.here hx rfl (hb hby d2_51) rfl (feq hc51_7).1 ?_
                    show Steps p.tables e below (s₁.setTop (mkF m 54 #[.val (.int p0), .unset] [])) _
                    refine XS.iloadN X0.here hx rfl (hb hby d2_54) rfl ?_
                    show Steps p.tables e below (s₁.setTop (mkF m 55 #[.val (.int p0), .unset] [(.int p0)])) _
                    refine X0.ldcInt hx hown (mvT hZ (hw _ (List.mem_of_getElem? (i := 9) rfl))) (g := (mkF m 55 #[.val (.int p0), .unset] [(.int p0)])) rfl (hb hby d2_55) _ ?_
                    show Steps p.tables e below (s₁.setTop (mkF m 57 #[.val (.int p0), .unset] [(.int (1114111 : Int32)), (.int p0)])) _
                    by_cases hc57_8 : (1114111 : Int32) < p0
                    · refine XS.icmpNo X0.here hx rfl (hb hby d2_57) rfl (tlt hc57_8).2.2.2 ?_
                      show Steps p.tables e below (s₁.setTop (mkF m 60 #[.val (.int p0), .unset] [])) _
                      refine XS.iconst X0.here hx rfl (hb hby d2_60) ?_
                      show Steps p.tables e below (s₁.setTop (mkF m 61 #[.val (.int p0), .unset] [(.int (1 : Int32))])) _
                      refine XS.goto X0.here hx rfl (pc0 := 61) (pc' := 65) rfl (hb hby d2_61) (by decide) (by decide) ?_
                      show Steps p.tables e below (s₁.setTop (mkF m 65 #[.val (.int p0), .unset] [(.int (1 : Int32))])) _
                      refine XS.istoreN X0.here hx rfl (hb hby d2_65) rfl (l' := #[.val (.int p0), .val (.int (1 : Int32))]) rfl ?_
                      show Steps p.tables e below (s₁.setTop (mkF m 66 #[.val (.int p0), .val (.int (1 : Int32))] [])) _
                      refine XS.iloadN X0.here hx rfl (hb hby d2_66) rfl ?_
                      show Steps p.tables e below (s₁.setTop (mkF m 67 #[.val (.int p0), .val (.int (1 : Int32))] [(.int (1 : Int32))])) _
                      refine XS.ifYes X0.here hx rfl (pc0 := 67) (pc' := 74) rfl (hb hby d2_67) rfl ((if0 _ _).trans (feq (by decide : ¬ ((1 : Int32) = (0 : Int32)))).2) (by decide) (by decide) ?_
                      show Steps p.tables e below (s₁.setTop (mkF m 74 #[.val (.int p0), .val (.int (1 : Int32))] [])) _
                      refine XS.iconst X0.here hx rfl (hb hby d2_74) ?_
                      show Steps p.tables e below (s₁.setTop (mkF m 75 #[.val (.int p0), .val (.int (1 : Int32))] [(.int (0 : Int32))])) _
                      have hf : (f_ref p0) = (0 : Int32) := by unfold f_ref; rw [if_neg hc3_0, if_neg hc9_1, if_neg hc15_2, if_pos hc21_3, if_neg hc33_4, if_pos hc39_5, if_neg hc45_6, if_neg hc51_7, if_pos hc57_8]
                      rw [hf] at hr
                      exact retN X0 hx (t := .boolean) Bd.returns (by simp) (hb hby d2_75) hr
                    · refine XS.icmpYes X0.here hx rfl (pc0 := 57) (pc' := 64) rfl (hb hby d2_57) rfl (flt hc57_8).2.2.2 (by decide) (by decide) ?_
                      show Steps p.tables e below (s₁.setTop (mkF m 64 #[.val (.int p0), .unset] [])) _
                      refine XS.iconst X0.here hx rfl (hb hby d2_64) ?_
                      show Steps p.tables e below (s₁.setTop (mkF m 65 #[.val (.int p0), .unset] [(.int (0 : Int32))])) _
                      refine XS.istoreN X0.here hx rfl (hb hby d2_65) rfl (l' := #[.val (.int p0), .val (.int (0 : Int32))]) rfl ?_
                      show Steps p.tables e below (s₁.setTop (mkF m 66 #[.val (.int p0), .val (.int (0 : Int32))] [])) _
                      refine XS.iloadN X0.here hx rfl (hb hby d2_66) rfl ?_
                      show Steps p.tables e below (s₁.setTop (mkF m 67 #[.val (.int p0), .val (.int (0 : Int32))] [(.int (0 : Int32))])) _
                      refine XS.ifNo X0.here hx rfl (hb hby d2_67) rfl ((if0 _ _).trans (teq (by decide : (0 : Int32) = (0 : Int32))).2) ?_
                      show Steps p.tables e below (s₁.setTop (mkF m 70 #[.val (.int p0), .val (.int (0 : Int32))] [])) _
                      refine XS.iconst X0.here hx rfl (hb hby d2_70) ?_
                      show Steps p.tables e below (s₁.setTop (mkF m 71 #[.val (.int p0), .val (.int (0 : Int32))] [(.int (1 : Int32))])) _
                      refine XS.goto X0.here hx rfl (pc0 := 71) (pc' := 75) rfl (hb hby d2_71) (by decide) (by decide) ?_
                      show Steps p.tables e below (s₁.setTop (mkF m 75 #[.val (.int p0), .val (.int (0 : Int32))] [(.int (1 : Int32))])) _
                      have hf : (f_ref p0) = (1 : Int32) := by unfold f_ref; rw [if_neg hc3_0, if_neg hc9_1, if_neg hc15_2, if_pos hc21_3, if_neg hc33_4, if_pos hc39_5, if_neg hc45_6, if_neg hc51_7, if_neg hc57_8]
                      rw [hf] at hr
                      exact retN X0 hx (t := .boolean) Bd.returns (by simp) (hb hby d2_75) hr
              · refine XS.icmpYes X0.here hx rfl (pc0 := 39) (pc' := 60) rfl (hb hby d2_39) rfl (flt hc39_5).2.2.2 (by decide) (by decide) ?_
                show Steps p.tables e below (s₁.setTop (mkF m 60 #[.val (.int p0), .unset] [])) _
                refine XS.iconst X0.here hx rfl (hb hby d2_60) ?_
                show Steps p.tables e below (s₁.setTop (mkF m 61 #[.val (.int p0), .unset] [(.int (1 : Int32))])) _
                refine XS.goto X0.here hx rfl (pc0 := 61) (pc' := 65) rfl (hb hby d2_61) (by decide) (by decide) ?_
                show Steps p.tables e below (s₁.setTop (mkF m 65 #[.val (.int p0), .unset] [(.int (1 : Int32))])) _
                refine XS.istoreN X0.here hx rfl (hb hby d2_65) rfl (l' := #[.val (.int p0), .val (.int (1 : Int32))]) rfl ?_
                show Steps p.tables e below (s₁.setTop (mkF m 66 #[.val (.int p0), .val (.int (1 : Int32))] [])) _
                refine XS.iloadN X0.here hx rfl (hb hby d2_66) rfl ?_
                show Steps p.tables e below (s₁.setTop (mkF m 67 #[.val (.int p0), .val (.int (1 : Int32))] [(.int (1 : Int32))])) _
                refine XS.ifYes X0.here hx rfl (pc0 := 67) (pc' := 74) rfl (hb hby d2_67) rfl ((if0 _ _).trans (feq (by decide : ¬ ((1 : Int32) = (0 : Int32)))).2) (by decide) (by decide) ?_
                show Steps p.tables e below (s₁.setTop (mkF m 74 #[.val (.int p0), .val (.int (1 : Int32))] [])) _
                refine XS.iconst X0.here hx rfl (hb hby d2_74) ?_
                show Steps p.tables e below (s₁.setTop (mkF m 75 #[.val (.int p0), .val (.int (1 : Int32))] [(.int (0 : Int32))])) _
                have hf : (f_ref p0) = (0 : Int32) := by unfold f_ref; rw [if_neg hc3_0, if_neg hc9_1, if_neg hc15_2, if_pos hc21_3, if_neg hc33_4, if_neg hc39_5]
                rw [hf] at hr
                exact retN X0 hx (t := .boolean) Bd.returns (by simp) (hb hby d2_75) hr
          · refine XS.icmpNo X0.here hx rfl (hb hby d2_21) rfl (flt hc21_3).1 ?_
            show Steps p.tables e below (s₁.setTop (mkF m 24 #[.val (.int p0), .unset] [])) _
            refine XS.iloadN X0.here hx rfl (hb hby d2_24) rfl ?_
            show Steps p.tables e below (s₁.setTop (mkF m 25 #[.val (.int p0), .unset] [(.int p0)])) _
            refine XS.bipush X0.here hx rfl (hb hby d2_25) ?_
            show Steps p.tables e below (s₁.setTop (mkF m 27 #[.val (.int p0), .unset] [(.int (31 : Int32)), (.int p0)])) _
            by_cases hc27_4 : (31 : Int32) < p0
            · refine XS.icmpNo X0.here hx rfl (hb hby d2_27) rfl (tlt hc27_4).2.2.2 ?_
              show Steps p.tables e below (s₁.setTop (mkF m 30 #[.val (.int p0), .unset] [])) _
              refine XS.iloadN X0.here hx rfl (hb hby d2_30) rfl ?_
              show Steps p.tables e below (s₁.setTop (mkF m 31 #[.val (.int p0), .unset] [(.int p0)])) _
              refine X0.ldcInt hx hown (mvT hZ (hw _ (List.mem_of_getElem? (i := 2) rfl))) (g := (mkF m 31 #[.val (.int p0), .unset] [(.int p0)])) rfl (hb hby d2_31) _ ?_
              show Steps p.tables e below (s₁.setTop (mkF m 33 #[.val (.int p0), .unset] [(.int (55296 : Int32)), (.int p0)])) _
              by_cases hc33_5 : p0 < (55296 : Int32)
              · refine XS.icmpYes X0.here hx rfl (pc0 := 33) (pc' := 42) rfl (hb hby d2_33) rfl (tlt hc33_5).1 (by decide) (by decide) ?_
                show Steps p.tables e below (s₁.setTop (mkF m 42 #[.val (.int p0), .unset] [])) _
                refine XS.iloadN X0.here hx rfl (hb hby d2_42) rfl ?_
                show Steps p.tables e below (s₁.setTop (mkF m 43 #[.val (.int p0), .unset] [(.int p0)])) _
                refine X0.ldcInt hx hown (mvT hZ (hw _ (List.mem_of_getElem? (i := 6) rfl))) (g := (mkF m 43 #[.val (.int p0), .unset] [(.int p0)])) rfl (hb hby d2_43) _ ?_
                show Steps p.tables e below (s₁.setTop (mkF m 45 #[.val (.int p0), .unset] [(.int (65534 : Int32)), (.int p0)])) _
                by_cases hc45_6 : p0 = (65534 : Int32)
                · refine XS.icmpYes X0.here hx rfl (pc0 := 45) (pc' := 60) rfl (hb hby d2_45) rfl (teq hc45_6).1 (by decide) (by decide) ?_
                  show Steps p.tables e below (s₁.setTop (mkF m 60 #[.val (.int p0), .unset] [])) _
                  refine XS.iconst X0.here hx rfl (hb hby d2_60) ?_
                  show Steps p.tables e below (s₁.setTop (mkF m 61 #[.val (.int p0), .unset] [(.int (1 : Int32))])) _
                  refine XS.goto X0.here hx rfl (pc0 := 61) (pc' := 65) rfl (hb hby d2_61) (by decide) (by decide) ?_
                  show Steps p.tables e below (s₁.setTop (mkF m 65 #[.val (.int p0), .unset] [(.int (1 : Int32))])) _
                  refine XS.istoreN X0.here hx rfl (hb hby d2_65) rfl (l' := #[.val (.int p0), .val (.int (1 : Int32))]) rfl ?_
                  show Steps p.tables e below (s₁.setTop (mkF m 66 #[.val (.int p0), .val (.int (1 : Int32))] [])) _
                  refine XS.iloadN X0.here hx rfl (hb hby d2_66) rfl ?_
                  show Steps p.tables e below (s₁.setTop (mkF m 67 #[.val (.int p0), .val (.int (1 : Int32))] [(.int (1 : Int32))])) _
                  refine XS.ifYes X0.here hx rfl (pc0 := 67) (pc' := 74) rfl (hb hby d2_67) rfl ((if0 _ _).trans (feq (by decide : ¬ ((1 : Int32) = (0 : Int32)))).2) (by decide) (by decide) ?_
                  show Steps p.tables e below (s₁.setTop (mkF m 74 #[.val (.int p0), .val (.int (1 : Int32))] [])) _
                  refine XS.iconst X0.here hx rfl (hb hby d2_74) ?_
                  show Steps p.tables e below (s₁.setTop (mkF m 75 #[.val (.int p0), .val (.int (1 : Int32))] [(.int (0 : Int32))])) _
                  have hf : (f_ref p0) = (0 : Int32) := by unfold f_ref; rw [if_neg hc3_0, if_neg hc9_1, if_neg hc15_2, if_neg hc21_3, if_pos hc27_4, if_pos hc33_5, if_pos hc45_6]
                  rw [hf] at hr
                  exact retN X0 hx (t := .boolean) Bd.returns (by simp) (hb hby d2_75) hr
                · refine XS.icmpNo X0.here hx rfl (hb hby d2_45) rfl (feq hc45_6).1 ?_
                  show Steps p.tables e below (s₁.setTop (mkF m 48 #[.val (.int p0), .unset] [])) _
                  refine XS.iloadN X0.here hx rfl (hb hby d2_48) rfl ?_
                  show Steps p.tables e below (s₁.setTop (mkF m 49 #[.val (.int p0), .unset] [(.int p0)])) _
                  refine X0.ldcInt hx hown (mvT hZ (hw _ (List.mem_of_getElem? (i := 7) rfl))) (g := (mkF m 49 #[.val (.int p0), .unset] [(.int p0)])) rfl (hb hby d2_49) _ ?_
                  show Steps p.tables e below (s₁.setTop (mkF m 51 #[.val (.int p0), .unset] [(.int (65535 : Int32)), (.int p0)])) _
                  by_cases hc51_7 : p0 = (65535 : Int32)
                  · refine XS.icmpYes X0.here hx rfl (pc0 := 51) (pc' := 60) rfl (hb hby d2_51) rfl (teq hc51_7).1 (by decide) (by decide) ?_
                    show Steps p.tables e below (s₁.setTop (mkF m 60 #[.val (.int p0), .unset] [])) _
                    refine XS.iconst X0.here hx rfl (hb hby d2_60) ?_
                    show Steps p.tables e below (s₁.setTop (mkF m 61 #[.val (.int p0), .unset] [(.int (1 : Int32))])) _
                    refine XS.goto X0.here hx rfl (pc0 := 61) (pc' := 65) rfl (hb hby d2_61) (by decide) (by decide) ?_
                    show Steps p.tables e below (s₁.setTop (mkF m 65 #[.val (.int p0), .unset] [(.int (1 : Int32))])) _
                    refine XS.istoreN X0.here hx rfl (hb hby d2_65) rfl (l' := #[.val (.int p0), .val (.int (1 : Int32))]) rfl ?_
                    show Steps p.tables e below (s₁.setTop (mkF m 66 #[.val (.int p0), .val (.int (1 : Int32))] [])) _
                    refine XS.iloadN X0.here hx rfl (hb hby d2_66) rfl ?_
                    show Steps p.tables e below (s₁.setTop (mkF m 67 #[.val (.int p0), .val (.int (1 : Int32))] [(.int (1 : Int32))])) _
                    refine XS.ifYes X0.here hx rfl (pc0 := 67) (pc' := 74) rfl (hb hby d2_67) rfl ((if0 _ _).trans (feq (by decide : ¬ ((1 : Int32) = (0 : Int32)))).2) (by decide) (by decide) ?_
                    show Steps p.tables e below (s₁.setTop (mkF m 74 #[.val (.int p0), .val (.int (1 : Int32))] [])) _
                    refine XS.iconst X0.here hx rfl (hb hby d2_74) ?_
                    show Steps p.tables e below (s₁.setTop (mkF m 75 #[.val (.int p0), .val (.int (1 : Int32))] [(.int (0 : Int32))])) _
                    have hf : (f_ref p0) = (0 : Int32) := by unfold f_ref; rw [if_neg hc3_0, if_neg hc9_1, if_neg hc15_2, if_neg hc21_3, if_pos hc27_4, if_pos hc33_5, if_neg hc45_6, if_pos hc51_7]
                    rw [hf] at hr
                    exact retN X0 hx (t := .boolean) Bd.returns (by simp) (hb hby d2_75) hr
                  · refine XS.icmpNo X0.here hx rfl (hb hby d2_51) rfl (feq hc51_7).1 ?_
                    show Steps p.tables e below (s₁.setTop (mkF m 54 #[.val (.int p0), .unset] [])) _
                    refine XS.iloadN X0.here hx rfl (hb hby d2_54) rfl ?_
                    show Steps p.tables e below (s₁.setTop (mkF m 55 #[.val (.int p0), .unset] [(.int p0)])) _
                    refine X0.ldcInt hx hown (mvT hZ (hw _ (List.mem_of_getElem? (i := 9) rfl))) (g := (mkF m 55 #[.val (.int p0), .unset] [(.int p0)])) rfl (hb hby d2_55) _ ?_
                    show Steps p.tables e below (s₁.setTop (mkF m 57 #[.val (.int p0), .unset] [(.int (1114111 : Int32)), (.int p0)])) _
                    by_cases hc57_8 : (1114111 : Int32) < p0
                    · refine XS.icmpNo X0.here hx rfl (hb hby d2_57) rfl (tlt hc57_8).2.2.2 ?_
                      show Steps p.tables e below (s₁.setTop (mkF m 60 #[.val (.int p0), .unset] [])) _
                      refine XS.iconst X0.here hx rfl (hb hby d2_60) ?_
                      show Steps p.tables e below (s₁.setTop (mkF m 61 #[.val (.int p0), .unset] [(.int (1 : Int32))])) _
                      refine XS.goto X0.here hx rfl (pc0 := 61) (pc' := 65) rfl (hb hby d2_61) (by decide) (by decide) ?_
                      show Steps p.tables e below (s₁.setTop (mkF m 65 #[.val (.int p0), .unset] [(.int (1 : Int32))])) _
                      refine XS.istoreN X0.here hx rfl (hb hby d2_65) rfl (l' := #[.val (.int p0), .val (.int (1 : Int32))]) rfl ?_
                      show Steps p.tables e below (s₁.setTop (mkF m 66 #[.val (.int p0), .val (.int (1 : Int32))] [])) _
                      refine XS.iloadN X0.here hx rfl (hb hby d2_66) rfl ?_
                      show Steps p.tables e below (s₁.setTop (mkF m 67 #[.val (.int p0), .val (.int (1 : Int32))] [(.int (1 : Int32))])) _
                      refine XS.ifYes X0.here hx rfl (pc0 := 67) (pc' := 74) rfl (hb hby d2_67) rfl ((if0 _ _).trans (feq (by decide : ¬ ((1 : Int32) = (0 : Int32)))).2) (by decide) (by decide) ?_
                      show Steps p.tables e below (s₁.setTop (mkF m 74 #[.val (.int p0), .val (.int (1 : Int32))] [])) _
                      refine XS.iconst X0.here hx rfl (hb hby d2_74) ?_
                      show Steps p.tables e below (s₁.setTop (mkF m 75 #[.val (.int p0), .val (.int (1 : Int32))] [(.int (0 : Int32))])) _
                      have hf : (f_ref p0) = (0 : Int32) := by unfold f_ref; rw [if_neg hc3_0, if_neg hc9_1, if_neg hc15_2, if_neg hc21_3, if_pos hc27_4, if_pos hc33_5, if_neg hc45_6, if_neg hc51_7, if_pos hc57_8]
                      rw [hf] at hr
                      exact retN X0 hx (t := .boolean) Bd.returns (by simp) (hb hby d2_75) hr
                    · refine XS.icmpYes X0.here hx rfl (pc0 := 57) (pc' := 64) rfl (hb hby d2_57) rfl (flt hc57_8).2.2.2 (by decide) (by decide) ?_
                      show Steps p.tables e below (s₁.setTop (mkF m 64 #[.val (.int p0), .unset] [])) _
                      refine XS.iconst X0.here hx rfl (hb hby d2_64) ?_
                      show Steps p.tables e below (s₁.setTop (mkF m 65 #[.val (.int p0), .unset] [(.int (0 : Int32))])) _
                      refine XS.istoreN X0.here hx rfl (hb hby d2_65) rfl (l' := #[.val (.int p0), .val (.int (0 : Int32))]) rfl ?_
                      show Steps p.tables e below (s₁.setTop (mkF m 66 #[.val (.int p0), .val (.int (0 : Int32))] [])) _
                      refine XS.iloadN X0.here hx rfl (hb hby d2_66) rfl ?_
                      show Steps p.tables e below (s₁.setTop (mkF m 67 #[.val (.int p0), .val (.int (0 : Int32))] [(.int (0 : Int32))])) _
                      refine XS.ifNo X0.here hx rfl (hb hby d2_67) rfl ((if0 _ _).trans (teq (by decide : (0 : Int32) = (0 : Int32))).2) ?_
                      show Steps p.tables e below (s₁.setTop (mkF m 70 #[.val (.int p0), .val (.int (0 : Int32))] [])) _
                      refine XS.iconst X0.here hx rfl (hb hby d2_70) ?_
                      show Steps p.tables e below (s₁.setTop (mkF m 71 #[.val (.int p0), .val (.int (0 : Int32))] [(.int (1 : Int32))])) _
                      refine XS.goto X0.here hx rfl (pc0 := 71) (pc' := 75) rfl (hb hby d2_71) (by decide) (by decide) ?_
                      show Steps p.tables e below (s₁.setTop (mkF m 75 #[.val (.int p0), .val (.int (0 : Int32))] [(.int (1 : Int32))])) _
                      have hf : (f_ref p0) = (1 : Int32) := by unfold f_ref; rw [if_neg hc3_0, if_neg hc9_1, if_neg hc15_2, if_neg hc21_3, if_pos hc27_4, if_pos hc33_5, if_neg hc45_6, if_neg hc51_7, if_neg hc57_8]
                      rw [hf] at hr
                      exact retN X0 hx (t := .boolean) Bd.returns (by simp) (hb hby d2_75) hr
              · refine XS.icmpNo X0.here hx rfl (hb hby d2_33) rfl (flt hc33_5).1 ?_
                show Steps p.tables e below (s₁.setTop (mkF m 36 #[.val (.int p0), .unset] [])) _
                refine XS.iloadN X0.here hx rfl (hb hby d2_36) rfl ?_
                show Steps p.tables e below (s₁.setTop (mkF m 37 #[.val (.int p0), .unset] [(.int p0)])) _
                refine X0.ldcInt hx hown (mvT hZ (hw _ (List.mem_of_getElem? (i := 3) rfl))) (g := (mkF m 37 #[.val (.int p0), .unset] [(.int p0)])) rfl (hb hby d2_37) _ ?_
                show Steps p.tables e below (s₁.setTop (mkF m 39 #[.val (.int p0), .unset] [(.int (57343 : Int32)), (.int p0)])) _
                by_cases hc39_6 : (57343 : Int32) < p0
                · refine XS.icmpNo X0.here hx rfl (hb hby d2_39) rfl (tlt hc39_6).2.2.2 ?_
                  show Steps p.tables e below (s₁.setTop (mkF m 42 #[.val (.int p0), .unset] [])) _
                  refine XS.iloadN X0.here hx rfl (hb hby d2_42) rfl ?_
                  show Steps p.tables e below (s₁.setTop (mkF m 43 #[.val (.int p0), .unset] [(.int p0)])) _
                  refine X0.ldcInt hx hown (mvT hZ (hw _ (List.mem_of_getElem? (i := 6) rfl))) (g := (mkF m 43 #[.val (.int p0), .unset] [(.int p0)])) rfl (hb hby d2_43) _ ?_
                  show Steps p.tables e below (s₁.setTop (mkF m 45 #[.val (.int p0), .unset] [(.int (65534 : Int32)), (.int p0)])) _
                  by_cases hc45_7 : p0 = (65534 : Int32)
                  · refine XS.icmpYes X0.here hx rfl (pc0 := 45) (pc' := 60) rfl (hb hby d2_45) rfl (teq hc45_7).1 (by decide) (by decide) ?_
                    show Steps p.tables e below (s₁.setTop (mkF m 60 #[.val (.int p0), .unset] [])) _
                    refine XS.iconst X0.here hx rfl (hb hby d2_60) ?_
                    show Steps p.tables e below (s₁.setTop (mkF m 61 #[.val (.int p0), .unset] [(.int (1 : Int32))])) _
                    refine XS.goto X0.here hx rfl (pc0 := 61) (pc' := 65) rfl (hb hby d2_61) (by decide) (by decide) ?_
                    show Steps p.tables e below (s₁.setTop (mkF m 65 #[.val (.int p0), .unset] [(.int (1 : Int32))])) _
                    refine XS.istoreN X0.here hx rfl (hb hby d2_65) rfl (l' := #[.val (.int p0), .val (.int (1 : Int32))]) rfl ?_
                    show Steps p.tables e below (s₁.setTop (mkF m 66 #[.val (.int p0), .val (.int (1 : Int32))] [])) _
                    refine XS.iloadN X0.here hx rfl (hb hby d2_66) rfl ?_
                    show Steps p.tables e below (s₁.setTop (mkF m 67 #[.val (.int p0), .val (.int (1 : Int32))] [(.int (1 : Int32))])) _
                    refine XS.ifYes X0.here hx rfl (pc0 := 67) (pc' := 74) rfl (hb hby d2_67) rfl ((if0 _ _).trans (feq (by decide : ¬ ((1 : Int32) = (0 : Int32)))).2) (by decide) (by decide) ?_
                    show Steps p.tables e below (s₁.setTop (mkF m 74 #[.val (.int p0), .val (.int (1 : Int32))] [])) _
                    refine XS.iconst X0.here hx rfl (hb hby d2_74) ?_
                    show Steps p.tables e below (s₁.setTop (mkF m 75 #[.val (.int p0), .val (.int (1 : Int32))] [(.int (0 : Int32))])) _
                    have hf : (f_ref p0) = (0 : Int32) := by unfold f_ref; rw [if_neg hc3_0, if_neg hc9_1, if_neg hc15_2, if_neg hc21_3, if_pos hc27_4, if_neg hc33_5, if_pos hc39_6, if_pos hc45_7]
                    rw [hf] at hr
                    exact retN X0 hx (t := .boolean) Bd.returns (by simp) (hb hby d2_75) hr
                  · refine XS.icmpNo X0.here hx rfl (hb hby d2_45) rfl (feq hc45_7).1 ?_
                    show Steps p.tables e below (s₁.setTop (mkF m 48 #[.val (.int p0), .unset] [])) _
                    refine XS.iloadN X0.here hx rfl (hb hby d2_48) rfl ?_
                    show Steps p.tables e below (s₁.setTop (mkF m 49 #[.val (.int p0), .unset] [(.int p0)])) _
                    refine X0.ldcInt hx hown (mvT hZ (hw _ (List.mem_of_getElem? (i := 7) rfl))) (g := (mkF m 49 #[.val (.int p0), .unset] [(.int p0)])) rfl (hb hby d2_49) _ ?_
                    show Steps p.tables e below (s₁.setTop (mkF m 51 #[.val (.int p0), .unset] [(.int (65535 : Int32)), (.int p0)])) _
                    by_cases hc51_8 : p0 = (65535 : Int32)
                    · refine XS.icmpYes X0.here hx rfl (pc0 := 51) (pc' := 60) rfl (hb hby d2_51) rfl (teq hc51_8).1 (by decide) (by decide) ?_
                      show Steps p.tables e below (s₁.setTop (mkF m 60 #[.val (.int p0), .unset] [])) _
                      refine XS.iconst X0.here hx rfl (hb hby d2_60) ?_
                      show Steps p.tables e below (s₁.setTop (mkF m 61 #[.val (.int p0), .unset] [(.int (1 : Int32))])) _
                      refine XS.goto X0.here hx rfl (pc0 := 61) (pc' := 65) rfl (hb hby d2_61) (by decide) (by decide) ?_
                      show Steps p.tables e below (s₁.setTop (mkF m 65 #[.val (.int p0), .unset] [(.int (1 : Int32))])) _
                      refine XS.istoreN X0.here hx rfl (hb hby d2_65) rfl (l' := #[.val (.int p0), .val (.int (1 : Int32))]) rfl ?_
                      show Steps p.tables e below (s₁.setTop (mkF m 66 #[.val (.int p0), .val (.int (1 : Int32))] [])) _
                      refine XS.iloadN X0.here hx rfl (hb hby d2_66) rfl ?_
                      show Steps p.tables e below (s₁.setTop (mkF m 67 #[.val (.int p0), .val (.int (1 : Int32))] [(.int (1 : Int32))])) _
                      refine XS.ifYes X0.here hx rfl (pc0 := 67) (pc' := 74) rfl (hb hby d2_67) rfl ((if0 _ _).trans (feq (by decide : ¬ ((1 : Int32) = (0 : Int32)))).2) (by decide) (by decide) ?_
                      show Steps p.tables e below (s₁.setTop (mkF m 74 #[.val (.int p0), .val (.int (1 : Int32))] [])) _
                      refine XS.iconst X0.here hx rfl (hb hby d2_74) ?_
                      show Steps p.tables e below (s₁.setTop (mkF m 75 #[.val (.int p0), .val (.int (1 : Int32))] [(.int (0 : Int32))])) _
                      have hf : (f_ref p0) = (0 : Int32) := by unfold f_ref; rw [if_neg hc3_0, if_neg hc9_1, if_neg hc15_2, if_neg hc21_3, if_pos hc27_4, if_neg hc33_5, if_pos hc39_6, if_neg hc45_7, if_pos hc51_8]
                      rw [hf] at hr
                      exact retN X0 hx (t := .boolean) Bd.returns (by simp) (hb hby d2_75) hr
                    · refine XS.icmpNo X0.here hx rfl (hb hby d2_51) rfl (feq hc51_8).1 ?_
                      show Steps p.tables e below (s₁.setTop (mkF m 54 #[.val (.int p0), .unset] [])) _
                      refine XS.iloadN X0.here hx rfl (hb hby d2_54) rfl ?_
                      show Steps p.tables e below (s₁.setTop (mkF m 55 #[.val (.int p0), .unset] [(.int p0)])) _
                      refine X0.ldcInt hx hown (mvT hZ (hw _ (List.mem_of_getElem? (i := 9) rfl))) (g := (mkF m 55 #[.val (.int p0), .unset] [(.int p0)])) rfl (hb hby d2_55) _ ?_
                      show Steps p.tables e below (s₁.setTop (mkF m 57 #[.val (.int p0), .unset] [(.int (1114111 : Int32)), (.int p0)])) _
                      by_cases hc57_9 : (1114111 : Int32) < p0
                      · refine XS.icmpNo X0.here hx rfl (hb hby d2_57) rfl (tlt hc57_9).2.2.2 ?_
                        show Steps p.tables e below (s₁.setTop (mkF m 60 #[.val (.int p0), .unset] [])) _
                        refine XS.iconst X0.here hx rfl (hb hby d2_60) ?_
                        show Steps p.tables e below (s₁.setTop (mkF m 61 #[.val (.int p0), .unset] [(.int (1 : Int32))])) _
                        refine XS.goto X0.here hx rfl (pc0 := 61) (pc' := 65) rfl (hb hby d2_61) (by decide) (by decide) ?_
                        show Steps p.tables e below (s₁.setTop (mkF m 65 #[.val (.int p0), .unset] [(.int (1 : Int32))])) _
                        refine XS.istoreN X0.here hx rfl (hb hby d2_65) rfl (l' := #[.val (.int p0), .val (.int (1 : Int32))]) rfl ?_
                        show Steps p.tables e below (s₁.setTop (mkF m 66 #[.val (.int p0), .val (.int (1 : Int32))] [])) _
                        refine XS.iloadN X0.here hx rfl (hb hby d2_66) rfl ?_
                        show Steps p.tables e below (s₁.setTop (mkF m 67 #[.val (.int p0), .val (.int (1 : Int32))] [(.int (1 : Int32))])) _
                        refine XS.ifYes X0.here hx rfl (pc0 := 67) (pc' := 74) rfl (hb hby d2_67) rfl ((if0 _ _).trans (feq (by decide : ¬ ((1 : Int32) = (0 : Int32)))).2) (by decide) (by decide) ?_
                        show Steps p.tables e below (s₁.setTop (mkF m 74 #[.val (.int p0), .val (.int (1 : Int32))] [])) _
                        refine XS.iconst X0.here hx rfl (hb hby d2_74) ?_
                        show Steps p.tables e below (s₁.setTop (mkF m 75 #[.val (.int p0), .val (.int (1 : Int32))] [(.int (0 : Int32))])) _
                        have hf : (f_ref p0) = (0 : Int32) := by unfold f_ref; rw [if_neg hc3_0, if_neg hc9_1, if_neg hc15_2, if_neg hc21_3, if_pos hc27_4, if_neg hc33_5, if_pos hc39_6, if_neg hc45_7, if_neg hc51_8, if_pos hc57_9]
                        rw [hf] at hr
                        exact retN X0 hx (t := .boolean) Bd.returns (by simp) (hb hby d2_75) hr
                      · refine XS.icmpYes X0.here hx rfl (pc0 := 57) (pc' := 64) rfl (hb hby d2_57) rfl (flt hc57_9).2.2.2 (by decide) (by decide) ?_
                        show Steps p.tables e below (s₁.setTop (mkF m 64 #[.val (.int p0), .unset] [])) _
                        refine XS.iconst X0.here hx rfl (hb hby d2_64) ?_
                        show Steps p.tables e below (s₁.setTop (mkF m 65 #[.val (.int p0), .unset] [(.int (0 : Int32))])) _
                        refine XS.istoreN X0.here hx rfl (hb hby d2_65) rfl (l' := #[.val (.int p0), .val (.int (0 : Int32))]) rfl ?_
                        show Steps p.tables e below (s₁.setTop (mkF m 66 #[.val (.int p0), .val (.int (0 : Int32))] [])) _
                        refine XS.iloadN X0.here hx rfl (hb hby d2_66) rfl ?_
                        show Steps p.tables e below (s₁.setTop (mkF m 67 #[.val (.int p0), .val (.int (0 : Int32))] [(.int (0 : Int32))])) _
                        refine XS.ifNo X0.here hx rfl (hb hby d2_67) rfl ((if0 _ _).trans (teq (by decide : (0 : Int32) = (0 : Int32))).2) ?_
                        show Steps p.tables e below (s₁.setTop (mkF m 70 #[.val (.int p0), .val (.int (0 : Int32))] [])) _
                        refine XS.iconst X0.here hx rfl (hb hby d2_70) ?_
                        show Steps p.tables e below (s₁.setTop (mkF m 71 #[.val (.int p0), .val (.int (0 : Int32))] [(.int (1 : Int32))])) _
                        refine XS.goto X0.here hx rfl (pc0 := 71) (pc' := 75) rfl (hb hby d2_71) (by decide) (by decide) ?_
                        show Steps p.tables e below (s₁.setTop (mkF m 75 #[.val (.int p0), .val (.int (0 : Int32))] [(.int (1 : Int32))])) _
                        have hf : (f_ref p0) = (1 : Int32) := by unfold f_ref; rw [if_neg hc3_0, if_neg hc9_1, if_neg hc15_2, if_neg hc21_3, if_pos hc27_4, if_neg hc33_5, if_pos hc39_6, if_neg hc45_7, if_neg hc51_8, if_neg hc57_9]
                        rw [hf] at hr
                        exact retN X0 hx (t := .boolean) Bd.returns (by simp) (hb hby d2_75) hr
                · refine XS.icmpYes X0.here hx rfl (pc0 := 39) (pc' := 60) rfl (hb hby d2_39) rfl (flt hc39_6).2.2.2 (by decide) (by decide) ?_
                  show Steps p.tables e below (s₁.setTop (mkF m 60 #[.val (.int p0), .unset] [])) _
                  refine XS.iconst X0.here hx rfl (hb hby d2_60) ?_
                  show Steps p.tables e below (s₁.setTop (mkF m 61 #[.val (.int p0), .unset] [(.int (1 : Int32))])) _
                  refine XS.goto X0.here hx rfl (pc0 := 61) (pc' := 65) rfl (hb hby d2_61) (by decide) (by decide) ?_
                  show Steps p.tables e below (s₁.setTop (mkF m 65 #[.val (.int p0), .unset] [(.int (1 : Int32))])) _
                  refine XS.istoreN X0.here hx rfl (hb hby d2_65) rfl (l' := #[.val (.int p0), .val (.int (1 : Int32))]) rfl ?_
                  show Steps p.tables e below (s₁.setTop (mkF m 66 #[.val (.int p0), .val (.int (1 : Int32))] [])) _
                  refine XS.iloadN X0.here hx rfl (hb hby d2_66) rfl ?_
                  show Steps p.tables e below (s₁.setTop (mkF m 67 #[.val (.int p0), .val (.int (1 : Int32))] [(.int (1 : Int32))])) _
                  refine XS.ifYes X0.here hx rfl (pc0 := 67) (pc' := 74) rfl (hb hby d2_67) rfl ((if0 _ _).trans (feq (by decide : ¬ ((1 : Int32) = (0 : Int32)))).2) (by decide) (by decide) ?_
                  show Steps p.tables e below (s₁.setTop (mkF m 74 #[.val (.int p0), .val (.int (1 : Int32))] [])) _
                  refine XS.iconst X0.here hx rfl (hb hby d2_74) ?_
                  show Steps p.tables e below (s₁.setTop (mkF m 75 #[.val (.int p0), .val (.int (1 : Int32))] [(.int (0 : Int32))])) _
                  have hf : (f_ref p0) = (0 : Int32) := by unfold f_ref; rw [if_neg hc3_0, if_neg hc9_1, if_neg hc15_2, if_neg hc21_3, if_pos hc27_4, if_neg hc33_5, if_neg hc39_6]
                  rw [hf] at hr
                  exact retN X0 hx (t := .boolean) Bd.returns (by simp) (hb hby d2_75) hr
            · refine XS.icmpYes X0.here hx rfl (pc0 := 27) (pc' := 60) rfl (hb hby d2_27) rfl (flt hc27_4).2.2.2 (by decide) (by decide) ?_
              show Steps p.tables e below (s₁.setTop (mkF m 60 #[.val (.int p0), .unset] [])) _
              refine XS.iconst X0.here hx rfl (hb hby d2_60) ?_
              show Steps p.tables e below (s₁.setTop (mkF m 61 #[.val (.int p0), .unset] [(.int (1 : Int32))])) _
              refine XS.goto X0.here hx rfl (pc0 := 61) (pc' := 65) rfl (hb hby d2_61) (by decide) (by decide) ?_
              show Steps p.tables e below (s₁.setTop (mkF m 65 #[.val (.int p0), .unset] [(.int (1 : Int32))])) _
              refine XS.istoreN X0.here hx rfl (hb hby d2_65) rfl (l' := #[.val (.int p0), .val (.int (1 : Int32))]) rfl ?_
              show Steps p.tables e below (s₁.setTop (mkF m 66 #[.val (.int p0), .val (.int (1 : Int32))] [])) _
              refine XS.iloadN X0.here hx rfl (hb hby d2_66) rfl ?_
              show Steps p.tables e below (s₁.setTop (mkF m 67 #[.val (.int p0), .val (.int (1 : Int32))] [(.int (1 : Int32))])) _
              refine XS.ifYes X0.here hx rfl (pc0 := 67) (pc' := 74) rfl (hb hby d2_67) rfl ((if0 _ _).trans (feq (by decide : ¬ ((1 : Int32) = (0 : Int32)))).2) (by decide) (by decide) ?_
              show Steps p.tables e below (s₁.setTop (mkF m 74 #[.val (.int p0), .val (.int (1 : Int32))] [])) _
              refine XS.iconst X0.here hx rfl (hb hby d2_74) ?_
              show Steps p.tables e below (s₁.setTop (mkF m 75 #[.val (.int p0), .val (.int (1 : Int32))] [(.int (0 : Int32))])) _
              have hf : (f_ref p0) = (0 : Int32) := by unfold f_ref; rw [if_neg hc3_0, if_neg hc9_1, if_neg hc15_2, if_neg hc21_3, if_neg hc27_4]
              rw [hf] at hr
              exact retN X0 hx (t := .boolean) Bd.returns (by simp) (hb hby d2_75) hr
  · show Q_ref Z p0 h0 n0 _ s₁.heap _
    rw [e0]
    exact ⟨rfl, N0, rfl⟩
def own_P (z : Int) : Prop := z = 9 ∨ z = 10 ∨ z = 13 ∨ (32 ≤ z ∧ z ≤ 55295) ∨ (57344 ≤ z ∧ z ≤ 65533) ∨ (65536 ≤ z ∧ z ≤ 1114111)
theorem own_f_char_1 (n : Int32) (h : own_P n.toInt) : f_char n = 1 := by
  unfold own_P at h
  unfold f_char
  repeat' split
  all_goals first
    | rfl
    | (exfalso; simp only [Int32.lt_iff_toInt_lt, ← Int32.toInt_inj, Int32.reduceToInt] at *; omega)
theorem own_f_char_0 (n : Int32) (h : ¬ own_P n.toInt) : f_char n = 0 := by
  unfold own_P at h
  unfold f_char
  repeat' split
  all_goals first
    | rfl
    | (exfalso; simp only [Int32.lt_iff_toInt_lt, ← Int32.toInt_inj, Int32.reduceToInt] at *; omega)
theorem own_f_ref_1 (n : Int32) (h : own_P n.toInt) : f_ref n = 1 := by
  unfold own_P at h
  unfold f_ref
  repeat' split
  all_goals first
    | rfl
    | (exfalso; simp only [Int32.lt_iff_toInt_lt, ← Int32.toInt_inj, Int32.reduceToInt] at *; omega)
theorem own_f_ref_0 (n : Int32) (h : ¬ own_P n.toInt) : f_ref n = 0 := by
  unfold own_P at h
  unfold f_ref
  repeat' split
  all_goals first
    | rfl
    | (exfalso; simp only [Int32.lt_iff_toInt_lt, ← Int32.toInt_inj, Int32.reduceToInt] at *; omega)
theorem own_eq (n : Int32) : f_char n = f_ref n := by
  by_cases h : own_P n.toInt
  · rw [own_f_char_1 n h, own_f_ref_1 n h]
  · rw [own_f_char_0 n h, own_f_ref_0 n h]
theorem own_k (x : Int32) : ¬ ((x &&& (2147483647 : Int32)) % (19 : Int32) < (0 : Int32)) ∧ (x &&& (2147483647 : Int32)) % (19 : Int32) < (19 : Int32) := by
  have e1 : (x &&& (2147483647 : Int32)).toInt = x.toInt % 2 ^ 31 := Jvm.Kit.i32_mask x 2147483647 (k := 31) (by decide) (by decide)
  have e2 : ((x &&& (2147483647 : Int32)) % (19 : Int32)).toInt = (x &&& (2147483647 : Int32)).toInt % (19 : Int32).toInt := Jvm.Kit.i32_rem_nonneg (by omega)
  have e3 : (19 : Int32).toInt = 19 := rfl
  have e4 : (0 : Int32).toInt = 0 := rfl
  rw [Int32.lt_iff_toInt_lt, Int32.lt_iff_toInt_lt, e2, e3, e4]
  omega
theorem own_int {v : Value} (h : fits .int v = true) : ∃ w, v = .int w := by
  cases v <;> first | exact ⟨_, rfl⟩ | (simp [fits] at h)
theorem pn_law : plainName "com/example/ostravice/ostravice/value/XmlCharsIsCharPinLaw" = true := by first | (simp [plainName, overriddenIn]; done) | decide +kernel
theorem pd_law_0 : parseMethodDescriptor "(I)Z" = some ⟨[.int], some .boolean⟩ := by decide +kernel
theorem ef_law (m : MethodId) (p0 : Int32) (p1 : Int32) (p2 : Int32) : entryFrame m #[(.int p0), (.int p1), (.int p2)] maxLocals = mkF m 0 #[.val (.int p0), .val (.int p1), .val (.int p2), .unset, .unset] [] := by first | (simp [entryFrame, mkF, argsToLocals, Value.category, maxLocals]; done) | rfl
def Q_law (Z : State) (p0 : Int32) (p1 : Int32) (p2 : Int32) (h0 : Heap) (n0 : Nat) (v : Option Value) (h : Heap) (L : List Loc) : Prop := v = some (.int (1 : Int32)) ∧ Fr n0 L
set_option maxRecDepth 65536 in
set_option maxHeartbeats 40000000 in
theorem rm_law (l : Launch) (Z : State) (a0 : Array Value) (hw : ∀ d ∈ tables_1, d.before a0 Z = true) (ws : List Jvm.Cond) (p0 : Int32) (p1 : Int32) (p2 : Int32) (h0 : Heap) (n0 : Nat) (Z0 : n0 ≤ h0.size) :
    MetFree l x (head1 (Jvm.Cond.code x code maxLocals ret :: ws) room_1) (fun a U => a = #[(.int p0), (.int p1), (.int p2)] ∧ Z.Warmed39 U.vm ∧ U.heap = h0) (fun _ _ _ _ _ => True) (fun _ U o U' => ∃ v L, o = .returned v ∧ Q_law Z p0 p1 p2 h0 n0 v U'.heap L ∧ FrameEnd U o U' L room_1.cells room_1.slots) := by
  refine MetFree.of_bodySF (plainFor_of_name pn_law) hisR ?_
  intro p e s m args below meth c s₁ Bd hml0 hP hK
  obtain ⟨rfl, hZ, hh⟩ := hP
  have hx := Bd.exec
  have hby := Bd.bytes
  have hml : c.maxLocals = 5 := hml0
  have hown : s.vm.findClass "com/example/ostravice/ostravice/value/XmlCharsIsCharPinLaw" = some m.cls := findClass_of_methodNamed Bd.named
  have hnm := (name_of_methodNamed Bd.named Bd.method).1
  have X0 : Stand p l e room_1 s m #[(.int p0), (.int p1), (.int p2)] below meth c s₁ [] 0 0 := Stand.of_body Bd
  have e0 : s₁.heap = h0 := by rw [← hh, Bd.state]; rfl
  have N0 := Fr.nil n0
  have pre0 : ∀ tg, Steps p.tables e below (s₁.setTop (mkF m 0 #[.val (.int p0), .val (.int p1), .val (.int p2), .unset, .unset] [])) tg → Steps p.tables e below (s₁.setTop (entryFrame m #[(.int p0), (.int p1), (.int p2)] maxLocals)) tg := fun tg kg => castTop (ef_law m p0 p1 p2) kg
  obtain ⟨Tr1, hr1, kr1, Xr1, er1, Er1, Ar1, str1⟩ := newP X0 hx hZ (hw _ (List.mem_of_getElem? (i := 0) rfl)) e0 (g := (mkF m 2 #[.val (.int p0), .val (.int p1), .val (.int p2), .unset, .unset] [(.int (19 : Int32))])) rfl (hb hby at_2) rfl (by decide) (cap := 19) (by decide) (by decide) (by decide) (by decide)
  obtain ⟨br1, gr1⟩ : ∃ z, z = h0.size := ⟨_, rfl⟩
  rw [← gr1] at Ar1 str1
  have Vr1 : Arv Z hr1 br1 kr1 .int (19 : Int32) [(.int (0 : Int32)), (.int (0 : Int32)), (.int (0 : Int32)), (.int (0 : Int32)), (.int (0 : Int32)), (.int (0 : Int32)), (.int (0 : Int32)), (.int (0 : Int32)), (.int (0 : Int32)), (.int (0 : Int32)), (.int (0 : Int32)), (.int (0 : Int32)), (.int (0 : Int32)), (.int (0 : Int32)), (.int (0 : Int32)), (.int (0 : Int32)), (.int (0 : Int32)), (.int (0 : Int32)), (.int (0 : Int32))] (.int (0 : Int32)) := (Arv.new Ar1 (by decide)).pad (pad_rep [] (.int (0 : Int32)) 19)
  have g_br1 : n0 ≤ br1 := Nat.le_trans Z0 (Nat.le_of_eq gr1.symm)
  have Zr1 : n0 ≤ hr1.size := Nat.le_trans Z0 Er1.1
  obtain ⟨vs0, hl0, V0⟩ : ∃ vs : List Value, vs.length = 19 ∧ Arv Z hr1 br1 kr1 .int (19 : Int32) vs (.int (0 : Int32)) := ⟨_, rfl, Vr1⟩
  obtain ⟨cr2, Ar2, qr2, Sr2, Mr2, Hr2, Ur2⟩ := V0
  obtain ⟨Tr2, hr2, Xr2, er2, Wr2, str2⟩ := stI Xr1 hx hZ er1 Ar2 (j := (0 : Int32)) (inb_of Sr2 ⟨(by decide : ¬ ((0 : Int32) < (0 : Int32))), (by decide : (0 : Int32) < (19 : Int32))⟩) (g := (mkF m 8 #[.val (.int p0), .val (.int p1), .val (.int p2), .unset, .unset] [(.int (8 : Int32)), (.int (0 : Int32)), (.ref br1), (.ref br1)])) rfl rfl (hb hby at_8)
  have Nr2 := Fr.snoc Xr2 N0 g_br1
  obtain ⟨Lpr2, Xr2, Nr2⟩ := own_pack Xr2 Nr2
  obtain ⟨vs1, hl1, V1⟩ : ∃ vs : List Value, vs.length = 19 ∧ Arv Z hr2 br1 kr1 .int (19 : Int32) vs (.int (0 : Int32)) := ⟨_, by rw [List.length_set]; exact hl0, Arv.set Ar2 qr2 Sr2 Mr2 Hr2 Ur2 rfl Wr2 0 rfl (by rw [hl0]; decide)⟩
  have Zr2 : n0 ≤ hr2.size := Nat.le_trans Zr1 (Keep.of_wr Wr2).1
  clear qr2 Sr2 Mr2 Hr2 Ur2
  obtain ⟨cr3, Ar3, qr3, Sr3, Mr3, Hr3, Ur3⟩ := V1
  obtain ⟨Tr3, hr3, Xr3, er3, Wr3, str3⟩ := stI Xr2 hx hZ er2 Ar3 (j := (1 : Int32)) (inb_of Sr3 ⟨(by decide : ¬ ((1 : Int32) < (0 : Int32))), (by decide : (1 : Int32) < (19 : Int32))⟩) (g := (mkF m 13 #[.val (.int p0), .val (.int p1), .val (.int p2), .unset, .unset] [(.int (9 : Int32)), (.int (1 : Int32)), (.ref br1), (.ref br1)])) rfl rfl (hb hby at_13)
  have Nr3 := Fr.snoc Xr3 Nr2 g_br1
  obtain ⟨Lpr3, Xr3, Nr3⟩ := own_pack Xr3 Nr3
  obtain ⟨vs2, hl2, V2⟩ : ∃ vs : List Value, vs.length = 19 ∧ Arv Z hr3 br1 kr1 .int (19 : Int32) vs (.int (0 : Int32)) := ⟨_, by rw [List.length_set]; exact hl1, Arv.set Ar3 qr3 Sr3 Mr3 Hr3 Ur3 rfl Wr3 1 rfl (by rw [hl1]; decide)⟩
  have Zr3 : n0 ≤ hr3.size := Nat.le_trans Zr2 (Keep.of_wr Wr3).1
  clear qr3 Sr3 Mr3 Hr3 Ur3
  obtain ⟨cr4, Ar4, qr4, Sr4, Mr4, Hr4, Ur4⟩ := V2
  obtain ⟨Tr4, hr4, Xr4, er4, Wr4, str4⟩ := stI Xr3 hx hZ er3 Ar4 (j := (2 : Int32)) (inb_of Sr4 ⟨(by decide : ¬ ((2 : Int32) < (0 : Int32))), (by decide : (2 : Int32) < (19 : Int32))⟩) (g := (mkF m 18 #[.val (.int p0), .val (.int p1), .val (.int p2), .unset, .unset] [(.int (10 : Int32)), (.int (2 : Int32)), (.ref br1), (.ref br1)])) rfl rfl (hb hby at_18)
  have Nr4 := Fr.snoc Xr4 Nr3 g_br1
  obtain ⟨Lpr4, Xr4, Nr4⟩ := own_pack Xr4 Nr4
  obtain ⟨vs3, hl3, V3⟩ : ∃ vs : List Value, vs.length = 19 ∧ Arv Z hr4 br1 kr1 .int (19 : Int32) vs (.int (0 : Int32)) := ⟨_, by rw [List.length_set]; exact hl2, Arv.set Ar4 qr4 Sr4 Mr4 Hr4 Ur4 rfl Wr4 2 rfl (by rw [hl2]; decide)⟩
  have Zr4 : n0 ≤ hr4.size := Nat.le_trans Zr3 (Keep.of_wr Wr4).1
  clear qr4 Sr4 Mr4 Hr4 Ur4
  obtain ⟨cr5, Ar5, qr5, Sr5, Mr5, Hr5, Ur5⟩ := V3
  obtain ⟨Tr5, hr5, Xr5, er5, Wr5, str5⟩ := stI Xr4 hx hZ er4 Ar5 (j := (3 : Int32)) (inb_of Sr5 ⟨(by decide : ¬ ((3 : Int32) < (0 : Int32))), (by decide : (3 : Int32) < (19 : Int32))⟩) (g := (mkF m 23 #[.val (.int p0), .val (.int p1), .val (.int p2), .unset, .unset] [(.int (11 : Int32)), (.int (3 : Int32)), (.ref br1), (.ref br1)])) rfl rfl (hb hby at_23)
  have Nr5 := Fr.snoc Xr5 Nr4 g_br1
  obtain ⟨Lpr5, Xr5, Nr5⟩ := own_pack Xr5 Nr5
  obtain ⟨vs4, hl4, V4⟩ : ∃ vs : List Value, vs.length = 19 ∧ Arv Z hr5 br1 kr1 .int (19 : Int32) vs (.int (0 : Int32)) := ⟨_, by rw [List.length_set]; exact hl3, Arv.set Ar5 qr5 Sr5 Mr5 Hr5 Ur5 rfl Wr5 3 rfl (by rw [hl3]; decide)⟩
  have Zr5 : n0 ≤ hr5.size := Nat.le_trans Zr4 (Keep.of_wr Wr5).1
  clear qr5 Sr5 Mr5 Hr5 Ur5
  obtain ⟨cr6, Ar6, qr6, Sr6, Mr6, Hr6, Ur6⟩ := V4
  obtain ⟨Tr6, hr6, Xr6, er6, Wr6, str6⟩ := stI Xr5 hx hZ er5 Ar6 (j := (4 : Int32)) (inb_of Sr6 ⟨(by decide : ¬ ((4 : Int32) < (0 : Int32))), (by decide : (4 : Int32) < (19 : Int32))⟩) (g := (mkF m 28 #[.val (.int p0), .val (.int p1), .val (.int p2), .unset, .unset] [(.int (12 : Int32)), (.int (4 : Int32)), (.ref br1), (.ref br1)])) rfl rfl (hb hby at_28)
  have Nr6 := Fr.snoc Xr6 Nr5 g_br1
  obtain ⟨Lpr6, Xr6, Nr6⟩ := own_pack Xr6 Nr6
  obtain ⟨vs5, hl5, V5⟩ : ∃ vs : List Value, vs.length = 19 ∧ Arv Z hr6 br1 kr1 .int (19 : Int32) vs (.int (0 : Int32)) := ⟨_, by rw [List.length_set]; exact hl4, Arv.set Ar6 qr6 Sr6 Mr6 Hr6 Ur6 rfl Wr6 4 rfl (by rw [hl4]; decide)⟩
  have Zr6 : n0 ≤ hr6.size := Nat.le_trans Zr5 (Keep.of_wr Wr6).1
  clear qr6 Sr6 Mr6 Hr6 Ur6
  obtain ⟨cr7, Ar7, qr7, Sr7, Mr7, Hr7, Ur7⟩ := V5
  obtain ⟨Tr7, hr7, Xr7, er7, Wr7, str7⟩ := stI Xr6 hx hZ er6 Ar7 (j := (5 : Int32)) (inb_of Sr7 ⟨(by decide : ¬ ((5 : Int32) < (0 : Int32))), (by decide : (5 : Int32) < (19 : Int32))⟩) (g := (mkF m 33 #[.val (.int p0), .val (.int p1), .val (.int p2), .unset, .unset] [(.int (13 : Int32)), (.int (5 : Int32)), (.ref br1), (.ref br1)])) rfl rfl (hb hby at_33)
  have Nr7 := Fr.snoc Xr7 Nr6 g_br1
  obtain ⟨Lpr7, Xr7, Nr7⟩ := own_pack Xr7 Nr7
  obtain ⟨vs6, hl6, V6⟩ : ∃ vs : List Value, vs.length = 19 ∧ Arv Z hr7 br1 kr1 .int (19 : Int32) vs (.int (0 : Int32)) := ⟨_, by rw [List.length_set]; exact hl5, Arv.set Ar7 qr7 Sr7 Mr7 Hr7 Ur7 rfl Wr7 5 rfl (by rw [hl5]; decide)⟩
  have Zr7 : n0 ≤ hr7.size := Nat.le_trans Zr6 (Keep.of_wr Wr7).1
  clear qr7 Sr7 Mr7 Hr7 Ur7
  obtain ⟨cr8, Ar8, qr8, Sr8, Mr8, Hr8, Ur8⟩ := V6
  obtain ⟨Tr8, hr8, Xr8, er8, Wr8, str8⟩ := stI Xr7 hx hZ er7 Ar8 (j := (6 : Int32)) (inb_of Sr8 ⟨(by decide : ¬ ((6 : Int32) < (0 : Int32))), (by decide : (6 : Int32) < (19 : Int32))⟩) (g := (mkF m 39 #[.val (.int p0), .val (.int p1), .val (.int p2), .unset, .unset] [(.int (14 : Int32)), (.int (6 : Int32)), (.ref br1), (.ref br1)])) rfl rfl (hb hby at_39)
  have Nr8 := Fr.snoc Xr8 Nr7 g_br1
  obtain ⟨Lpr8, Xr8, Nr8⟩ := own_pack Xr8 Nr8
  obtain ⟨vs7, hl7, V7⟩ : ∃ vs : List Value, vs.length = 19 ∧ Arv Z hr8 br1 kr1 .int (19 : Int32) vs (.int (0 : Int32)) := ⟨_, by rw [List.length_set]; exact hl6, Arv.set Ar8 qr8 Sr8 Mr8 Hr8 Ur8 rfl Wr8 6 rfl (by rw [hl6]; decide)⟩
  have Zr8 : n0 ≤ hr8.size := Nat.le_trans Zr7 (Keep.of_wr Wr8).1
  clear qr8 Sr8 Mr8 Hr8 Ur8
  obtain ⟨cr9, Ar9, qr9, Sr9, Mr9, Hr9, Ur9⟩ := V7
  obtain ⟨Tr9, hr9, Xr9, er9, Wr9, str9⟩ := stI Xr8 hx hZ er8 Ar9 (j := (7 : Int32)) (inb_of Sr9 ⟨(by decide : ¬ ((7 : Int32) < (0 : Int32))), (by decide : (7 : Int32) < (19 : Int32))⟩) (g := (mkF m 45 #[.val (.int p0), .val (.int p1), .val (.int p2), .unset, .unset] [(.int (31 : Int32)), (.int (7 : Int32)), (.ref br1), (.ref br1)])) rfl rfl (hb hby at_45)
  have Nr9 := Fr.snoc Xr9 Nr8 g_br1
  obtain ⟨Lpr9, Xr9, Nr9⟩ := own_pack Xr9 Nr9
  obtain ⟨vs8, hl8, V8⟩ : ∃ vs : List Value, vs.length = 19 ∧ Arv Z hr9 br1 kr1 .int (19 : Int32) vs (.int (0 : Int32)) := ⟨_, by rw [List.length_set]; exact hl7, Arv.set Ar9 qr9 Sr9 Mr9 Hr9 Ur9 rfl Wr9 7 rfl (by rw [hl7]; decide)⟩
  have Zr9 : n0 ≤ hr9.size := Nat.le_trans Zr8 (Keep.of_wr Wr9).1
  clear qr9 Sr9 Mr9 Hr9 Ur9
  obtain ⟨cr10, Ar10, qr10, Sr10, Mr10, Hr10, Ur10⟩ := V8
  obtain ⟨Tr10, hr10, Xr10, er10, Wr10, str10⟩ := stI Xr9 hx hZ er9 Ar10 (j := (8 : Int32)) (inb_of Sr10 ⟨(by decide : ¬ ((8 : Int32) < (0 : Int32))), (by decide : (8 : Int32) < (19 : Int32))⟩) (g := (mkF m 51 #[.val (.int p0), .val (.int p1), .val (.int p2), .unset, .unset] [(.int (32 : Int32)), (.int (8 : Int32)), (.ref br1), (.ref br1)])) rfl rfl (hb hby at_51)
  have Nr10 := Fr.snoc Xr10 Nr9 g_br1
  obtain ⟨Lpr10, Xr10, Nr10⟩ := own_pack Xr10 Nr10
  obtain ⟨vs9, hl9, V9⟩ : ∃ vs : List Value, vs.length = 19 ∧ Arv Z hr10 br1 kr1 .int (19 : Int32) vs (.int (0 : Int32)) := ⟨_, by rw [List.length_set]; exact hl8, Arv.set Ar10 qr10 Sr10 Mr10 Hr10 Ur10 rfl Wr10 8 rfl (by rw [hl8]; decide)⟩
  have Zr10 : n0 ≤ hr10.size := Nat.le_trans Zr9 (Keep.of_wr Wr10).1
  clear qr10 Sr10 Mr10 Hr10 Ur10
  obtain ⟨cr11, Ar11, qr11, Sr11, Mr11, Hr11, Ur11⟩ := V9
  obtain ⟨Tr11, hr11, Xr11, er11, Wr11, str11⟩ := stI Xr10 hx hZ er10 Ar11 (j := (9 : Int32)) (inb_of Sr11 ⟨(by decide : ¬ ((9 : Int32) < (0 : Int32))), (by decide : (9 : Int32) < (19 : Int32))⟩) (g := (mkF m 57 #[.val (.int p0), .val (.int p1), .val (.int p2), .unset, .unset] [(.int (55295 : Int32)), (.int (9 : Int32)), (.ref br1), (.ref br1)])) rfl rfl (hb hby at_57)
  have Nr11 := Fr.snoc Xr11 Nr10 g_br1
  obtain ⟨Lpr11, Xr11, Nr11⟩ := own_pack Xr11 Nr11
  obtain ⟨vs10, hl10, V10⟩ : ∃ vs : List Value, vs.length = 19 ∧ Arv Z hr11 br1 kr1 .int (19 : Int32) vs (.int (0 : Int32)) := ⟨_, by rw [List.length_set]; exact hl9, Arv.set Ar11 qr11 Sr11 Mr11 Hr11 Ur11 rfl Wr11 9 rfl (by rw [hl9]; decide)⟩
  have Zr11 : n0 ≤ hr11.size := Nat.le_trans Zr10 (Keep.of_wr Wr11).1
  clear qr11 Sr11 Mr11 Hr11 Ur11
  obtain ⟨cr12, Ar12, qr12, Sr12, Mr12, Hr12, Ur12⟩ := V10
  obtain ⟨Tr12, hr12, Xr12, er12, Wr12, str12⟩ := stI Xr11 hx hZ er11 Ar12 (j := (10 : Int32)) (inb_of Sr12 ⟨(by decide : ¬ ((10 : Int32) < (0 : Int32))), (by decide : (10 : Int32) < (19 : Int32))⟩) (g := (mkF m 63 #[.val (.int p0), .val (.int p1), .val (.int p2), .unset, .unset] [(.int (55296 : Int32)), (.int (10 : Int32)), (.ref br1), (.ref br1)])) rfl rfl (hb hby at_63)
  have Nr12 := Fr.snoc Xr12 Nr11 g_br1
  obtain ⟨Lpr12, Xr12, Nr12⟩ := own_pack Xr12 Nr12
  obtain ⟨vs11, hl11, V11⟩ : ∃ vs : List Value, vs.length = 19 ∧ Arv Z hr12 br1 kr1 .int (19 : Int32) vs (.int (0 : Int32)) := ⟨_, by rw [List.length_set]; exact hl10, Arv.set Ar12 qr12 Sr12 Mr12 Hr12 Ur12 rfl Wr12 10 rfl (by rw [hl10]; decide)⟩
  have Zr12 : n0 ≤ hr12.size := Nat.le_trans Zr11 (Keep.of_wr Wr12).1
  clear qr12 Sr12 Mr12 Hr12 Ur12
  obtain ⟨cr13, Ar13, qr13, Sr13, Mr13, Hr13, Ur13⟩ := V11
  obtain ⟨Tr13, hr13, Xr13, er13, Wr13, str13⟩ := stI Xr12 hx hZ er12 Ar13 (j := (11 : Int32)) (inb_of Sr13 ⟨(by decide : ¬ ((11 : Int32) < (0 : Int32))), (by decide : (11 : Int32) < (19 : Int32))⟩) (g := (mkF m 69 #[.val (.int p0), .val (.int p1), .val (.int p2), .unset, .unset] [(.int (57343 : Int32)), (.int (11 : Int32)), (.ref br1), (.ref br1)])) rfl rfl (hb hby at_69)
  have Nr13 := Fr.snoc Xr13 Nr12 g_br1
  obtain ⟨Lpr13, Xr13, Nr13⟩ := own_pack Xr13 Nr13
  obtain ⟨vs12, hl12, V12⟩ : ∃ vs : List Value, vs.length = 19 ∧ Arv Z hr13 br1 kr1 .int (19 : Int32) vs (.int (0 : Int32)) := ⟨_, by rw [List.length_set]; exact hl11, Arv.set Ar13 qr13 Sr13 Mr13 Hr13 Ur13 rfl Wr13 11 rfl (by rw [hl11]; decide)⟩
  have Zr13 : n0 ≤ hr13.size := Nat.le_trans Zr12 (Keep.of_wr Wr13).1
  clear qr13 Sr13 Mr13 Hr13 Ur13
  obtain ⟨cr14, Ar14, qr14, Sr14, Mr14, Hr14, Ur14⟩ := V12
  obtain ⟨Tr14, hr14, Xr14, er14, Wr14, str14⟩ := stI Xr13 hx hZ er13 Ar14 (j := (12 : Int32)) (inb_of Sr14 ⟨(by decide : ¬ ((12 : Int32) < (0 : Int32))), (by decide : (12 : Int32) < (19 : Int32))⟩) (g := (mkF m 75 #[.val (.int p0), .val (.int p1), .val (.int p2), .unset, .unset] [(.int (57344 : Int32)), (.int (12 : Int32)), (.ref br1), (.ref br1)])) rfl rfl (hb hby at_75)
  have Nr14 := Fr.snoc Xr14 Nr13 g_br1
  obtain ⟨Lpr14, Xr14, Nr14⟩ := own_pack Xr14 Nr14
  obtain ⟨vs13, hl13, V13⟩ : ∃ vs : List Value, vs.length = 19 ∧ Arv Z hr14 br1 kr1 .int (19 : Int32) vs (.int (0 : Int32)) := ⟨_, by rw [List.length_set]; exact hl12, Arv.set Ar14 qr14 Sr14 Mr14 Hr14 Ur14 rfl Wr14 12 rfl (by rw [hl12]; decide)⟩
  have Zr14 : n0 ≤ hr14.size := Nat.le_trans Zr13 (Keep.of_wr Wr14).1
  clear qr14 Sr14 Mr14 Hr14 Ur14
  obtain ⟨cr15, Ar15, qr15, Sr15, Mr15, Hr15, Ur15⟩ := V13
  obtain ⟨Tr15, hr15, Xr15, er15, Wr15, str15⟩ := stI Xr14 hx hZ er14 Ar15 (j := (13 : Int32)) (inb_of Sr15 ⟨(by decide : ¬ ((13 : Int32) < (0 : Int32))), (by decide : (13 : Int32) < (19 : Int32))⟩) (g := (mkF m 81 #[.val (.int p0), .val (.int p1), .val (.int p2), .unset, .unset] [(.int (65533 : Int32)), (.int (13 : Int32)), (.ref br1), (.ref br1)])) rfl rfl (hb hby at_81)
  have Nr15 := Fr.snoc Xr15 Nr14 g_br1
  obtain ⟨Lpr15, Xr15, Nr15⟩ := own_pack Xr15 Nr15
  obtain ⟨vs14, hl14, V14⟩ : ∃ vs : List Value, vs.length = 19 ∧ Arv Z hr15 br1 kr1 .int (19 : Int32) vs (.int (0 : Int32)) := ⟨_, by rw [List.length_set]; exact hl13, Arv.set Ar15 qr15 Sr15 Mr15 Hr15 Ur15 rfl Wr15 13 rfl (by rw [hl13]; decide)⟩
  have Zr15 : n0 ≤ hr15.size := Nat.le_trans Zr14 (Keep.of_wr Wr15).1
  clear qr15 Sr15 Mr15 Hr15 Ur15
  obtain ⟨cr16, Ar16, qr16, Sr16, Mr16, Hr16, Ur16⟩ := V14
  obtain ⟨Tr16, hr16, Xr16, er16, Wr16, str16⟩ := stI Xr15 hx hZ er15 Ar16 (j := (14 : Int32)) (inb_of Sr16 ⟨(by decide : ¬ ((14 : Int32) < (0 : Int32))), (by decide : (14 : Int32) < (19 : Int32))⟩) (g := (mkF m 87 #[.val (.int p0), .val (.int p1), .val (.int p2), .unset, .unset] [(.int (65534 : Int32)), (.int (14 : Int32)), (.ref br1), (.ref br1)])) rfl rfl (hb hby at_87)
  have Nr16 := Fr.snoc Xr16 Nr15 g_br1
  obtain ⟨Lpr16, Xr16, Nr16⟩ := own_pack Xr16 Nr16
  obtain ⟨vs15, hl15, V15⟩ : ∃ vs : List Value, vs.length = 19 ∧ Arv Z hr16 br1 kr1 .int (19 : Int32) vs (.int (0 : Int32)) := ⟨_, by rw [List.length_set]; exact hl14, Arv.set Ar16 qr16 Sr16 Mr16 Hr16 Ur16 rfl Wr16 14 rfl (by rw [hl14]; decide)⟩
  have Zr16 : n0 ≤ hr16.size := Nat.le_trans Zr15 (Keep.of_wr Wr16).1
  clear qr16 Sr16 Mr16 Hr16 Ur16
  obtain ⟨cr17, Ar17, qr17, Sr17, Mr17, Hr17, Ur17⟩ := V15
  obtain ⟨Tr17, hr17, Xr17, er17, Wr17, str17⟩ := stI Xr16 hx hZ er16 Ar17 (j := (15 : Int32)) (inb_of Sr17 ⟨(by decide : ¬ ((15 : Int32) < (0 : Int32))), (by decide : (15 : Int32) < (19 : Int32))⟩) (g := (mkF m 93 #[.val (.int p0), .val (.int p1), .val (.int p2), .unset, .unset] [(.int (65535 : Int32)), (.int (15 : Int32)), (.ref br1), (.ref br1)])) rfl rfl (hb hby at_93)
  have Nr17 := Fr.snoc Xr17 Nr16 g_br1
  obtain ⟨Lpr17, Xr17, Nr17⟩ := own_pack Xr17 Nr17
  obtain ⟨vs16, hl16, V16⟩ : ∃ vs : List Value, vs.length = 19 ∧ Arv Z hr17 br1 kr1 .int (19 : Int32) vs (.int (0 : Int32)) := ⟨_, by rw [List.length_set]; exact hl15, Arv.set Ar17 qr17 Sr17 Mr17 Hr17 Ur17 rfl Wr17 15 rfl (by rw [hl15]; decide)⟩
  have Zr17 : n0 ≤ hr17.size := Nat.le_trans Zr16 (Keep.of_wr Wr17).1
  clear qr17 Sr17 Mr17 Hr17 Ur17
  obtain ⟨cr18, Ar18, qr18, Sr18, Mr18, Hr18, Ur18⟩ := V16
  obtain ⟨Tr18, hr18, Xr18, er18, Wr18, str18⟩ := stI Xr17 hx hZ er17 Ar18 (j := (16 : Int32)) (inb_of Sr18 ⟨(by decide : ¬ ((16 : Int32) < (0 : Int32))), (by decide : (16 : Int32) < (19 : Int32))⟩) (g := (mkF m 99 #[.val (.int p0), .val (.int p1), .val (.int p2), .unset, .unset] [(.int (65536 : Int32)), (.int (16 : Int32)), (.ref br1), (.ref br1)])) rfl rfl (hb hby at_99)
  have Nr18 := Fr.snoc Xr18 Nr17 g_br1
  obtain ⟨Lpr18, Xr18, Nr18⟩ := own_pack Xr18 Nr18
  obtain ⟨vs17, hl17, V17⟩ : ∃ vs : List Value, vs.length = 19 ∧ Arv Z hr18 br1 kr1 .int (19 : Int32) vs (.int (0 : Int32)) := ⟨_, by rw [List.length_set]; exact hl16, Arv.set Ar18 qr18 Sr18 Mr18 Hr18 Ur18 rfl Wr18 16 rfl (by rw [hl16]; decide)⟩
  have Zr18 : n0 ≤ hr18.size := Nat.le_trans Zr17 (Keep.of_wr Wr18).1
  clear qr18 Sr18 Mr18 Hr18 Ur18
  obtain ⟨cr19, Ar19, qr19, Sr19, Mr19, Hr19, Ur19⟩ := V17
  obtain ⟨Tr19, hr19, Xr19, er19, Wr19, str19⟩ := stI Xr18 hx hZ er18 Ar19 (j := (17 : Int32)) (inb_of Sr19 ⟨(by decide : ¬ ((17 : Int32) < (0 : Int32))), (by decide : (17 : Int32) < (19 : Int32))⟩) (g := (mkF m 105 #[.val (.int p0), .val (.int p1), .val (.int p2), .unset, .unset] [(.int (1114111 : Int32)), (.int (17 : Int32)), (.ref br1), (.ref br1)])) rfl rfl (hb hby at_105)
  have Nr19 := Fr.snoc Xr19 Nr18 g_br1
  obtain ⟨Lpr19, Xr19, Nr19⟩ := own_pack Xr19 Nr19
  obtain ⟨vs18, hl18, V18⟩ : ∃ vs : List Value, vs.length = 19 ∧ Arv Z hr19 br1 kr1 .int (19 : Int32) vs (.int (0 : Int32)) := ⟨_, by rw [List.length_set]; exact hl17, Arv.set Ar19 qr19 Sr19 Mr19 Hr19 Ur19 rfl Wr19 17 rfl (by rw [hl17]; decide)⟩
  have Zr19 : n0 ≤ hr19.size := Nat.le_trans Zr18 (Keep.of_wr Wr19).1
  clear qr19 Sr19 Mr19 Hr19 Ur19
  obtain ⟨cr20, Ar20, qr20, Sr20, Mr20, Hr20, Ur20⟩ := V18
  obtain ⟨Tr20, hr20, Xr20, er20, Wr20, str20⟩ := stI Xr19 hx hZ er19 Ar20 (j := (18 : Int32)) (inb_of Sr20 ⟨(by decide : ¬ ((18 : Int32) < (0 : Int32))), (by decide : (18 : Int32) < (19 : Int32))⟩) (g := (mkF m 111 #[.val (.int p0), .val (.int p1), .val (.int p2), .unset, .unset] [(.int (1114112 : Int32)), (.int (18 : Int32)), (.ref br1), (.ref br1)])) rfl rfl (hb hby at_111)
  have Nr20 := Fr.snoc Xr20 Nr19 g_br1
  obtain ⟨Lpr20, Xr20, Nr20⟩ := own_pack Xr20 Nr20
  obtain ⟨vs19, hl19, V19⟩ : ∃ vs : List Value, vs.length = 19 ∧ Arv Z hr20 br1 kr1 .int (19 : Int32) vs (.int (0 : Int32)) := ⟨_, by rw [List.length_set]; exact hl18, Arv.set Ar20 qr20 Sr20 Mr20 Hr20 Ur20 rfl Wr20 18 rfl (by rw [hl18]; decide)⟩
  have Zr20 : n0 ≤ hr20.size := Nat.le_trans Zr19 (Keep.of_wr Wr20).1
  clear qr20 Sr20 Mr20 Hr20 Ur20
  obtain ⟨cl, Ar, -, Sl, -, Hl, Ul⟩ := id V19
  have hin := inb_of Sl (own_k p1)
  have hlt : ((p1 &&& (2147483647 : Int32)) % (19 : Int32)).toNatClampNeg < cl.slots.size := Nat.lt_of_not_le fun q => hin (Or.inr q)
  obtain ⟨w, hv⟩ := own_int (Ul _ hlt)
  have hat := Hl _ hlt
  rw [hv] at hat
  obtain ⟨_, _, ⟨Tr21, Lr21, kr21, nr21⟩, -, Xr21, ⟨Lcr21, hQr21, lr21, yr21, zr21⟩, str21⟩ := Jvm.LawKit.callS Xr20 hx (y := (⟨"com/example/ostravice/ostravice/value/XmlChars", "isChar", "(I)Z"⟩ : MethodName)) hown (mvT hZ (hw _ (List.mem_of_getElem? (i := 12) rfl))) (mvT hZ (hw _ (List.mem_of_getElem? (i := 13) rfl))) (mvT hZ (hw _ (List.mem_of_getElem? (i := 14) rfl))) (mvT hZ (hw _ (List.mem_of_getElem? (i := 15) rfl))) (by decide) (backOf (W := 0) (rm_char l Z a0 hw [] p0  hr20 n0 Zr20 ) hZ (hw _ (List.mem_of_getElem? (i := 15) rfl)) (hw _ (List.mem_of_getElem? (i := 14) rfl)) (by decide) (by decide)) (g := (mkF m 131 #[.val (.int p0), .val (.int p1), .val (.int p2), .val (.ref br1), .val (.int (w + ((p2 &&& (3 : Int32)) - (1 : Int32))))] [(.int p0)])) rfl (by rw [hml]; rfl) (argsL := [(.int p0)]) (rest := []) (lenOf pd_law_0 rfl) rfl (by show 2 * 0 + _ ≤ _; exact Nat.le_of_eq rfl) (hb hby at_131) (fun _ _ => ⟨rfl, er20, (by decide : 1 + 0 ≤ _), (by decide : 19 + 0 ≤ _)⟩)
  dsimp only [Pt.U, Pt.locs, Pt.cells, Pt.slots] at Xr21 lr21 yr21 zr21 str21 hQr21
  subst lr21 yr21 zr21
  obtain ⟨rfl, Nr21q, er21⟩ := hQr21
  have Nr21 := Fr.app Nr20 Nr21q
  obtain ⟨Lpr21, Xr21, Nr21⟩ := own_pack Xr21 Nr21
  obtain ⟨_, _, ⟨Tr22, Lr22, kr22, nr22⟩, -, Xr22, ⟨Lcr22, hQr22, lr22, yr22, zr22⟩, str22⟩ := Jvm.LawKit.callS Xr21 hx (y := (⟨"com/example/ostravice/ostravice/value/XmlCharsIsCharPinLaw", "reference", "(I)Z"⟩ : MethodName)) hown (mvT hZ (hw _ (List.mem_of_getElem? (i := 18) rfl))) (mvT hZ (hw _ (List.mem_of_getElem? (i := 19) rfl))) (mvT hZ (hw _ (List.mem_of_getElem? (i := 20) rfl))) (mvT hZ (hw _ (List.mem_of_getElem? (i := 21) rfl))) (by decide) (backOf (W := 1) (rm_ref l Z a0 hw [] p0  hr20 n0 Zr20 ) hZ (hw _ (List.mem_of_getElem? (i := 21) rfl)) (hw _ (List.mem_of_getElem? (i := 20) rfl)) (by decide) (by decide)) (g := (mkF m 135 #[.val (.int p0), .val (.int p1), .val (.int p2), .val (.ref br1), .val (.int (w + ((p2 &&& (3 : Int32)) - (1 : Int32))))] [(.int p0), (.int (f_char p0))])) rfl (by rw [hml]; rfl) (argsL := [(.int p0)]) (rest := [(.int (f_char p0))]) (lenOf pd_law_0 rfl) rfl (by show 2 * 0 + _ ≤ _; exact Nat.le_of_eq rfl) (hb hby at_135) (fun _ _ => ⟨rfl, er21, (by decide : 1 + 0 ≤ _), (by decide : 19 + 0 ≤ _)⟩)
  dsimp only [Pt.U, Pt.locs, Pt.cells, Pt.slots] at Xr22 lr22 yr22 zr22 str22 hQr22
  subst lr22 yr22 zr22
  obtain ⟨rfl, Nr22q, er22⟩ := hQr22
  have Nr22 := Fr.app Nr21 Nr22q
  obtain ⟨Lpr22, Xr22, Nr22⟩ := own_pack Xr22 Nr22
  obtain ⟨_, _, ⟨Tr23, Lr23, kr23, nr23⟩, -, Xr23, ⟨Lcr23, hQr23, lr23, yr23, zr23⟩, str23⟩ := Jvm.LawKit.callS Xr22 hx (y := (⟨"com/example/ostravice/ostravice/value/XmlChars", "isChar", "(I)Z"⟩ : MethodName)) hown (mvT hZ (hw _ (List.mem_of_getElem? (i := 12) rfl))) (mvT hZ (hw _ (List.mem_of_getElem? (i := 13) rfl))) (mvT hZ (hw _ (List.mem_of_getElem? (i := 14) rfl))) (mvT hZ (hw _ (List.mem_of_getElem? (i := 15) rfl))) (by decide) (backOf (W := 0) (rm_char l Z a0 hw [] (w + ((p2 &&& (3 : Int32)) - (1 : Int32)))  hr20 n0 Zr20 ) hZ (hw _ (List.mem_of_getElem? (i := 15) rfl)) (hw _ (List.mem_of_getElem? (i := 14) rfl)) (by decide) (by decide)) (g := (mkF m 143 #[.val (.int p0), .val (.int p1), .val (.int p2), .val (.ref br1), .val (.int (w + ((p2 &&& (3 : Int32)) - (1 : Int32))))] [(.int (w + ((p2 &&& (3 : Int32)) - (1 : Int32))))])) rfl (by rw [hml]; rfl) (argsL := [(.int (w + ((p2 &&& (3 : Int32)) - (1 : Int32))))]) (rest := []) (lenOf pd_law_0 rfl) rfl (by show 2 * 0 + _ ≤ _; exact Nat.le_of_eq rfl) (hb hby at_143) (fun _ _ => ⟨rfl, er22, (by decide : 1 + 0 ≤ _), (by decide : 19 + 0 ≤ _)⟩)
  dsimp only [Pt.U, Pt.locs, Pt.cells, Pt.slots] at Xr23 lr23 yr23 zr23 str23 hQr23
  subst lr23 yr23 zr23
  obtain ⟨rfl, Nr23q, er23⟩ := hQr23
  have Nr23 := Fr.app Nr22 Nr23q
  obtain ⟨Lpr23, Xr23, Nr23⟩ := own_pack Xr23 Nr23
  obtain ⟨_, _, ⟨Tr24, Lr24, kr24, nr24⟩, -, Xr24, ⟨Lcr24, hQr24, lr24, yr24, zr24⟩, str24⟩ := Jvm.LawKit.callS Xr23 hx (y := (⟨"com/example/ostravice/ostravice/value/XmlCharsIsCharPinLaw", "reference", "(I)Z"⟩ : MethodName)) hown (mvT hZ (hw _ (List.mem_of_getElem? (i := 18) rfl))) (mvT hZ (hw _ (List.mem_of_getElem? (i := 19) rfl))) (mvT hZ (hw _ (List.mem_of_getElem? (i := 20) rfl))) (mvT hZ (hw _ (List.mem_of_getElem? (i := 21) rfl))) (by decide) (backOf (W := 1) (rm_ref l Z a0 hw [] (w + ((p2 &&& (3 : Int32)) - (1 : Int32)))  hr20 n0 Zr20 ) hZ (hw _ (List.mem_of_getElem? (i := 21) rfl)) (hw _ (List.mem_of_getElem? (i := 20) rfl)) (by decide) (by decide)) (g := (mkF m 148 #[.val (.int p0), .val (.int p1), .val (.int p2), .val (.ref br1), .val (.int (w + ((p2 &&& (3 : Int32)) - (1 : Int32))))] [(.int (w + ((p2 &&& (3 : Int32)) - (1 : Int32)))), (.int (f_char (w + ((p2 &&& (3 : Int32)) - (1 : Int32)))))])) rfl (by rw [hml]; rfl) (argsL := [(.int (w + ((p2 &&& (3 : Int32)) - (1 : Int32))))]) (rest := [(.int (f_char (w + ((p2 &&& (3 : Int32)) - (1 : Int32)))))]) (lenOf pd_law_0 rfl) rfl (by show 2 * 0 + _ ≤ _; exact Nat.le_of_eq rfl) (hb hby at_148) (fun _ _ => ⟨rfl, er23, (by decide : 1 + 0 ≤ _), (by decide : 19 + 0 ≤ _)⟩)
  dsimp only [Pt.U, Pt.locs, Pt.cells, Pt.slots] at Xr24 lr24 yr24 zr24 str24 hQr24
  subst lr24 yr24 zr24
  obtain ⟨rfl, Nr24q, er24⟩ := hQr24
  have Nr24 := Fr.app Nr23 Nr24q
  obtain ⟨Lpr24, Xr24, Nr24⟩ := own_pack Xr24 Nr24
  obtain ⟨fs, hr, hrun, hended, hW, hsame⟩ := Xr24.leave (v := some (.int (1 : Int32))) (fun h => by rw [Bd.returns] at h; cases h)
  refine ⟨_, _, pre0 _ ?_, hrun, hended, _, _, rfl, ?_, ⟨_, rfl⟩, hW, hsame.mono (by decide) (by decide)⟩
  · show Steps p.tables e below (s₁.setTop (mkF m 0 #[.val (.int p0), .val (.int p1), .val (.int p2), .unset, .unset] [])) _
    refine XS.bipush X0.here hx rfl (hb hby at_0) ?_
    show Steps p.tables e below (s₁.setTop (mkF m 2 #[.val (.int p0), .val (.int p1), .val (.int p2), .unset, .unset] [(.int (19 : Int32))])) _
    refine str1 _ ?_
    show Steps p.tables e below (Tr1.setTop (mkF m 4 #[.val (.int p0), .val (.int p1), .val (.int p2), .unset, .unset] [(.ref br1)])) _
    refine XS.dup Xr1.here hx rfl (hb hby at_4) rfl rfl ?_
    show Steps p.tables e below (Tr1.setTop (mkF m 5 #[.val (.int p0), .val (.int p1), .val (.int p2), .unset, .unset] [(.ref br1), (.ref br1)])) _
    refine XS.iconst Xr1.here hx rfl (hb hby at_5) ?_
    show Steps p.tables e below (Tr1.setTop (mkF m 6 #[.val (.int p0), .val (.int p1), .val (.int p2), .unset, .unset] [(.int (0 : Int32)), (.ref br1), (.ref br1)])) _
    refine XS.bipush Xr1.here hx rfl (hb hby at_6) ?_
    show Steps p.tables e below (Tr1.setTop (mkF m 8 #[.val (.int p0), .val (.int p1), .val (.int p2), .unset, .unset] [(.int (8 : Int32)), (.int (0 : Int32)), (.ref br1), (.ref br1)])) _
    refine str2 _ ?_
    show Steps p.tables e below (Tr2.setTop (mkF m 9 #[.val (.int p0), .val (.int p1), .val (.int p2), .unset, .unset] [(.ref br1)])) _
    refine XS.dup Xr2.here hx rfl (hb hby at_9) rfl rfl ?_
    show Steps p.tables e below (Tr2.setTop (mkF m 10 #[.val (.int p0), .val (.int p1), .val (.int p2), .unset, .unset] [(.ref br1), (.ref br1)])) _
    refine XS.iconst Xr2.here hx rfl (hb hby at_10) ?_
    show Steps p.tables e below (Tr2.setTop (mkF m 11 #[.val (.int p0), .val (.int p1), .val (.int p2), .unset, .unset] [(.int (1 : Int32)), (.ref br1), (.ref br1)])) _
    refine XS.bipush Xr2.here hx rfl (hb hby at_11) ?_
    show Steps p.tables e below (Tr2.setTop (mkF m 13 #[.val (.int p0), .val (.int p1), .val (.int p2), .unset, .unset] [(.int (9 : Int32)), (.int (1 : Int32)), (.ref br1), (.ref br1)])) _
    refine str3 _ ?_
    show Steps p.tables e below (Tr3.setTop (mkF m 14 #[.val (.int p0), .val (.int p1), .val (.int p2), .unset, .unset] [(.ref br1)])) _
    refine XS.dup Xr3.here hx rfl (hb hby at_14) rfl rfl ?_
    show Steps p.tables e below (Tr3.setTop (mkF m 15 #[.val (.int p0), .val (.int p1), .val (.int p2), .unset, .unset] [(.ref br1), (.ref br1)])) _
    refine XS.iconst Xr3.here hx rfl (hb hby at_15) ?_
    show Steps p.tables e below (Tr3.setTop (mkF m 16 #[.val (.int p0), .val (.int p1), .val (.int p2), .unset, .unset] [(.int (2 : Int32)), (.ref br1), (.ref br1)])) _
    refine XS.bipush Xr3.here hx rfl (hb hby at_16) ?_
    show Steps p.tables e below (Tr3.setTop (mkF m 18 #[.val (.int p0), .val (.int p1), .val (.int p2), .unset, .unset] [(.int (10 : Int32)), (.int (2 : Int32)), (.ref br1), (.ref br1)])) _
    refine str4 _ ?_
    show Steps p.tables e below (Tr4.setTop (mkF m 19 #[.val (.int p0), .val (.int p1), .val (.int p2), .unset, .unset] [(.ref br1)])) _
    refine XS.dup Xr4.here hx rfl (hb hby at_19) rfl rfl ?_
    show Steps p.tables e below (Tr4.setTop (mkF m 20 #[.val (.int p0), .val (.int p1), .val (.int p2), .unset, .unset] [(.ref br1), (.ref br1)])) _
    refine XS.iconst Xr4.here hx rfl (hb hby at_20) ?_
    show Steps p.tables e below (Tr4.setTop (mkF m 21 #[.val (.int p0), .val (.int p1), .val (.int p2), .unset, .unset] [(.int (3 : Int32)), (.ref br1), (.ref br1)])) _
    refine XS.bipush Xr4.here hx rfl (hb hby at_21) ?_
    show Steps p.tables e below (Tr4.setTop (mkF m 23 #[.val (.int p0), .val (.int p1), .val (.int p2), .unset, .unset] [(.int (11 : Int32)), (.int (3 : Int32)), (.ref br1), (.ref br1)])) _
    refine str5 _ ?_
    show Steps p.tables e below (Tr5.setTop (mkF m 24 #[.val (.int p0), .val (.int p1), .val (.int p2), .unset, .unset] [(.ref br1)])) _
    refine XS.dup Xr5.here hx rfl (hb hby at_24) rfl rfl ?_
    show Steps p.tables e below (Tr5.setTop (mkF m 25 #[.val (.int p0), .val (.int p1), .val (.int p2), .unset, .unset] [(.ref br1), (.ref br1)])) _
    refine XS.iconst Xr5.here hx rfl (hb hby at_25) ?_
    show Steps p.tables e below (Tr5.setTop (mkF m 26 #[.val (.int p0), .val (.int p1), .val (.int p2), .unset, .unset] [(.int (4 : Int32)), (.ref br1), (.ref br1)])) _
    refine XS.bipush Xr5.here hx rfl (hb hby at_26) ?_
    show Steps p.tables e below (Tr5.setTop (mkF m 28 #[.val (.int p0), .val (.int p1), .val (.int p2), .unset, .unset] [(.int (12 : Int32)), (.int (4 : Int32)), (.ref br1), (.ref br1)])) _
    refine str6 _ ?_
    show Steps p.tables e below (Tr6.setTop (mkF m 29 #[.val (.int p0), .val (.int p1), .val (.int p2), .unset, .unset] [(.ref br1)])) _
    refine XS.dup Xr6.here hx rfl (hb hby at_29) rfl rfl ?_
    show Steps p.tables e below (Tr6.setTop (mkF m 30 #[.val (.int p0), .val (.int p1), .val (.int p2), .unset, .unset] [(.ref br1), (.ref br1)])) _
    refine XS.iconst Xr6.here hx rfl (hb hby at_30) ?_
    show Steps p.tables e below (Tr6.setTop (mkF m 31 #[.val (.int p0), .val (.int p1), .val (.int p2), .unset, .unset] [(.int (5 : Int32)), (.ref br1), (.ref br1)])) _
    refine XS.bipush Xr6.here hx rfl (hb hby at_31) ?_
    show Steps p.tables e below (Tr6.setTop (mkF m 33 #[.val (.int p0), .val (.int p1), .val (.int p2), .unset, .unset] [(.int (13 : Int32)), (.int (5 : Int32)), (.ref br1), (.ref br1)])) _
    refine str7 _ ?_
    show Steps p.tables e below (Tr7.setTop (mkF m 34 #[.val (.int p0), .val (.int p1), .val (.int p2), .unset, .unset] [(.ref br1)])) _
    refine XS.dup Xr7.here hx rfl (hb hby at_34) rfl rfl ?_
    show Steps p.tables e below (Tr7.setTop (mkF m 35 #[.val (.int p0), .val (.int p1), .val (.int p2), .unset, .unset] [(.ref br1), (.ref br1)])) _
    refine XS.bipush Xr7.here hx rfl (hb hby at_35) ?_
    show Steps p.tables e below (Tr7.setTop (mkF m 37 #[.val (.int p0), .val (.int p1), .val (.int p2), .unset, .unset] [(.int (6 : Int32)), (.ref br1), (.ref br1)])) _
    refine XS.bipush Xr7.here hx rfl (hb hby at_37) ?_
    show Steps p.tables e below (Tr7.setTop (mkF m 39 #[.val (.int p0), .val (.int p1), .val (.int p2), .unset, .unset] [(.int (14 : Int32)), (.int (6 : Int32)), (.ref br1), (.ref br1)])) _
    refine str8 _ ?_
    show Steps p.tables e below (Tr8.setTop (mkF m 40 #[.val (.int p0), .val (.int p1), .val (.int p2), .unset, .unset] [(.ref br1)])) _
    refine XS.dup Xr8.here hx rfl (hb hby at_40) rfl rfl ?_
    show Steps p.tables e below (Tr8.setTop (mkF m 41 #[.val (.int p0), .val (.int p1), .val (.int p2), .unset, .unset] [(.ref br1), (.ref br1)])) _
    refine XS.bipush Xr8.here hx rfl (hb hby at_41) ?_
    show Steps p.tables e below (Tr8.setTop (mkF m 43 #[.val (.int p0), .val (.int p1), .val (.int p2), .unset, .unset] [(.int (7 : Int32)), (.ref br1), (.ref br1)])) _
    refine XS.bipush Xr8.here hx rfl (hb hby at_43) ?_
    show Steps p.tables e below (Tr8.setTop (mkF m 45 #[.val (.int p0), .val (.int p1), .val (.int p2), .unset, .unset] [(.int (31 : Int32)), (.int (7 : Int32)), (.ref br1), (.ref br1)])) _
    refine str9 _ ?_
    show Steps p.tables e below (Tr9.setTop (mkF m 46 #[.val (.int p0), .val (.int p1), .val (.int p2), .unset, .unset] [(.ref br1)])) _
    refine XS.dup Xr9.here hx rfl (hb hby at_46) rfl rfl ?_
    show Steps p.tables e below (Tr9.setTop (mkF m 47 #[.val (.int p0), .val (.int p1), .val (.int p2), .unset, .unset] [(.ref br1), (.ref br1)])) _
    refine XS.bipush Xr9.here hx rfl (hb hby at_47) ?_
    show Steps p.tables e below (Tr9.setTop (mkF m 49 #[.val (.int p0), .val (.int p1), .val (.int p2), .unset, .unset] [(.int (8 : Int32)), (.ref br1), (.ref br1)])) _
    refine XS.bipush Xr9.here hx rfl (hb hby at_49) ?_
    show Steps p.tables e below (Tr9.setTop (mkF m 51 #[.val (.int p0), .val (.int p1), .val (.int p2), .unset, .unset] [(.int (32 : Int32)), (.int (8 : Int32)), (.ref br1), (.ref br1)])) _
    refine str10 _ ?_
    show Steps p.tables e below (Tr10.setTop (mkF m 52 #[.val (.int p0), .val (.int p1), .val (.int p2), .unset, .unset] [(.ref br1)])) _
    refine XS.dup Xr10.here hx rfl (hb hby at_52) rfl rfl ?_
    show Steps p.tables e below (Tr10.setTop (mkF m 53 #[.val (.int p0), .val (.int p1), .val (.int p2), .unset, .unset] [(.ref br1), (.ref br1)])) _
    refine XS.bipush Xr10.here hx rfl (hb hby at_53) ?_
    show Steps p.tables e below (Tr10.setTop (mkF m 55 #[.val (.int p0), .val (.int p1), .val (.int p2), .unset, .unset] [(.int (9 : Int32)), (.ref br1), (.ref br1)])) _
    refine Xr10.ldcInt hx hown (mvT hZ (hw _ (List.mem_of_getElem? (i := 1) rfl))) (g := (mkF m 55 #[.val (.int p0), .val (.int p1), .val (.int p2), .unset, .unset] [(.int (9 : Int32)), (.ref br1), (.ref br1)])) rfl (hb hby at_55) _ ?_
    show Steps p.tables e below (Tr10.setTop (mkF m 57 #[.val (.int p0), .val (.int p1), .val (.int p2), .unset, .unset] [(.int (55295 : Int32)), (.int (9 : Int32)), (.ref br1), (.ref br1)])) _
    refine str11 _ ?_
    show Steps p.tables e below (Tr11.setTop (mkF m 58 #[.val (.int p0), .val (.int p1), .val (.int p2), .unset, .unset] [(.ref br1)])) _
    refine XS.dup Xr11.here hx rfl (hb hby at_58) rfl rfl ?_
    show Steps p.tables e below (Tr11.setTop (mkF m 59 #[.val (.int p0), .val (.int p1), .val (.int p2), .unset, .unset] [(.ref br1), (.ref br1)])) _
    refine XS.bipush Xr11.here hx rfl (hb hby at_59) ?_
    show Steps p.tables e below (Tr11.setTop (mkF m 61 #[.val (.int p0), .val (.int p1), .val (.int p2), .unset, .unset] [(.int (10 : Int32)), (.ref br1), (.ref br1)])) _
    refine Xr11.ldcInt hx hown (mvT hZ (hw _ (List.mem_of_getElem? (i := 2) rfl))) (g := (mkF m 61 #[.val (.int p0), .val (.int p1), .val (.int p2), .unset, .unset] [(.int (10 : Int32)), (.ref br1), (.ref br1)])) rfl (hb hby at_61) _ ?_
    show Steps p.tables e below (Tr11.setTop (mkF m 63 #[.val (.int p0), .val (.int p1), .val (.int p2), .unset, .unset] [(.int (55296 : Int32)), (.int (10 : Int32)), (.ref br1), (.ref br1)])) _
    refine str12 _ ?_
    show Steps p.tables e below (Tr12.setTop (mkF m 64 #[.val (.int p0), .val (.int p1), .val (.int p2), .unset, .unset] [(.ref br1)])) _
    refine XS.dup Xr12.here hx rfl (hb hby at_64) rfl rfl ?_
    show Steps p.tables e below (Tr12.setTop (mkF m 65 #[.val (.int p0), .val (.int p1), .val (.int p2), .unset, .unset] [(.ref br1), (.ref br1)])) _
    refine XS.bipush Xr12.here hx rfl (hb hby at_65) ?_
    show Steps p.tables e below (Tr12.setTop (mkF m 67 #[.val (.int p0), .val (.int p1), .val (.int p2), .unset, .unset] [(.int (11 : Int32)), (.ref br1), (.ref br1)])) _
    refine Xr12.ldcInt hx hown (mvT hZ (hw _ (List.mem_of_getElem? (i := 3) rfl))) (g := (mkF m 67 #[.val (.int p0), .val (.int p1), .val (.int p2), .unset, .unset] [(.int (11 : Int32)), (.ref br1), (.ref br1)])) rfl (hb hby at_67) _ ?_
    show Steps p.tables e below (Tr12.setTop (mkF m 69 #[.val (.int p0), .val (.int p1), .val (.int p2), .unset, .unset] [(.int (57343 : Int32)), (.int (11 : Int32)), (.ref br1), (.ref br1)])) _
    refine str13 _ ?_
    show Steps p.tables e below (Tr13.setTop (mkF m 70 #[.val (.int p0), .val (.int p1), .val (.int p2), .unset, .unset] [(.ref br1)])) _
    refine XS.dup Xr13.here hx rfl (hb hby at_70) rfl rfl ?_
    show Steps p.tables e below (Tr13.setTop (mkF m 71 #[.val (.int p0), .val (.int p1), .val (.int p2), .unset, .unset] [(.ref br1), (.ref br1)])) _
    refine XS.bipush Xr13.here hx rfl (hb hby at_71) ?_
    show Steps p.tables e below (Tr13.setTop (mkF m 73 #[.val (.int p0), .val (.int p1), .val (.int p2), .unset, .unset] [(.int (12 : Int32)), (.ref br1), (.ref br1)])) _
    refine Xr13.ldcInt hx hown (mvT hZ (hw _ (List.mem_of_getElem? (i := 4) rfl))) (g := (mkF m 73 #[.val (.int p0), .val (.int p1), .val (.int p2), .unset, .unset] [(.int (12 : Int32)), (.ref br1), (.ref br1)])) rfl (hb hby at_73) _ ?_
    show Steps p.tables e below (Tr13.setTop (mkF m 75 #[.val (.int p0), .val (.int p1), .val (.int p2), .unset, .unset] [(.int (57344 : Int32)), (.int (12 : Int32)), (.ref br1), (.ref br1)])) _
    refine str14 _ ?_
    show Steps p.tables e below (Tr14.setTop (mkF m 76 #[.val (.int p0), .val (.int p1), .val (.int p2), .unset, .unset] [(.ref br1)])) _
    refine XS.dup Xr14.here hx rfl (hb hby at_76) rfl rfl ?_
    show Steps p.tables e below (Tr14.setTop (mkF m 77 #[.val (.int p0), .val (.int p1), .val (.int p2), .unset, .unset] [(.ref br1), (.ref br1)])) _
    refine XS.bipush Xr14.here hx rfl (hb hby at_77) ?_
    show Steps p.tables e below (Tr14.setTop (mkF m 79 #[.val (.int p0), .val (.int p1), .val (.int p2), .unset, .unset] [(.int (13 : Int32)), (.ref br1), (.ref br1)])) _
    refine Xr14.ldcInt hx hown (mvT hZ (hw _ (List.mem_of_getElem? (i := 5) rfl))) (g := (mkF m 79 #[.val (.int p0), .val (.int p1), .val (.int p2), .unset, .unset] [(.int (13 : Int32)), (.ref br1), (.ref br1)])) rfl (hb hby at_79) _ ?_
    show Steps p.tables e below (Tr14.setTop (mkF m 81 #[.val (.int p0), .val (.int p1), .val (.int p2), .unset, .unset] [(.int (65533 : Int32)), (.int (13 : Int32)), (.ref br1), (.ref br1)])) _
    refine str15 _ ?_
    show Steps p.tables e below (Tr15.setTop (mkF m 82 #[.val (.int p0), .val (.int p1), .val (.int p2), .unset, .unset] [(.ref br1)])) _
    refine XS.dup Xr15.here hx rfl (hb hby at_82) rfl rfl ?_
    show Steps p.tables e below (Tr15.setTop (mkF m 83 #[.val (.int p0), .val (.int p1), .val (.int p2), .unset, .unset] [(.ref br1), (.ref br1)])) _
    refine XS.bipush Xr15.here hx rfl (hb hby at_83) ?_
    show Steps p.tables e below (Tr15.setTop (mkF m 85 #[.val (.int p0), .val (.int p1), .val (.int p2), .unset, .unset] [(.int (14 : Int32)), (.ref br1), (.ref br1)])) _
    refine Xr15.ldcInt hx hown (mvT hZ (hw _ (List.mem_of_getElem? (i := 6) rfl))) (g := (mkF m 85 #[.val (.int p0), .val (.int p1), .val (.int p2), .unset, .unset] [(.int (14 : Int32)), (.ref br1), (.ref br1)])) rfl (hb hby at_85) _ ?_
    show Steps p.tables e below (Tr15.setTop (mkF m 87 #[.val (.int p0), .val (.int p1), .val (.int p2), .unset, .unset] [(.int (65534 : Int32)), (.int (14 : Int32)), (.ref br1), (.ref br1)])) _
    refine str16 _ ?_
    show Steps p.tables e below (Tr16.setTop (mkF m 88 #[.val (.int p0), .val (.int p1), .val (.int p2), .unset, .unset] [(.ref br1)])) _
    refine XS.dup Xr16.here hx rfl (hb hby at_88) rfl rfl ?_
    show Steps p.tables e below (Tr16.setTop (mkF m 89 #[.val (.int p0), .val (.int p1), .val (.int p2), .unset, .unset] [(.ref br1), (.ref br1)])) _
    refine XS.bipush Xr16.here hx rfl (hb hby at_89) ?_
    show Steps p.tables e below (Tr16.setTop (mkF m 91 #[.val (.int p0), .val (.int p1), .val (.int p2), .unset, .unset] [(.int (15 : Int32)), (.ref br1), (.ref br1)])) _
    refine Xr16.ldcInt hx hown (mvT hZ (hw _ (List.mem_of_getElem? (i := 7) rfl))) (g := (mkF m 91 #[.val (.int p0), .val (.int p1), .val (.int p2), .unset, .unset] [(.int (15 : Int32)), (.ref br1), (.ref br1)])) rfl (hb hby at_91) _ ?_
    show Steps p.tables e below (Tr16.setTop (mkF m 93 #[.val (.int p0), .val (.int p1), .val (.int p2), .unset, .unset] [(.int (65535 : Int32)), (.int (15 : Int32)), (.ref br1), (.ref br1)])) _
    refine str17 _ ?_
    show Steps p.tables e below (Tr17.setTop (mkF m 94 #[.val (.int p0), .val (.int p1), .val (.int p2), .unset, .unset] [(.ref br1)])) _
    refine XS.dup Xr17.here hx rfl (hb hby at_94) rfl rfl ?_
    show Steps p.tables e below (Tr17.setTop (mkF m 95 #[.val (.int p0), .val (.int p1), .val (.int p2), .unset, .unset] [(.ref br1), (.ref br1)])) _
    refine XS.bipush Xr17.here hx rfl (hb hby at_95) ?_
    show Steps p.tables e below (Tr17.setTop (mkF m 97 #[.val (.int p0), .val (.int p1), .val (.int p2), .unset, .unset] [(.int (16 : Int32)), (.ref br1), (.ref br1)])) _
    refine Xr17.ldcInt hx hown (mvT hZ (hw _ (List.mem_of_getElem? (i := 8) rfl))) (g := (mkF m 97 #[.val (.int p0), .val (.int p1), .val (.int p2), .unset, .unset] [(.int (16 : Int32)), (.ref br1), (.ref br1)])) rfl (hb hby at_97) _ ?_
    show Steps p.tables e below (Tr17.setTop (mkF m 99 #[.val (.int p0), .val (.int p1), .val (.int p2), .unset, .unset] [(.int (65536 : Int32)), (.int (16 : Int32)), (.ref br1), (.ref br1)])) _
    refine str18 _ ?_
    show Steps p.tables e below (Tr18.setTop (mkF m 100 #[.val (.int p0), .val (.int p1), .val (.int p2), .unset, .unset] [(.ref br1)])) _
    refine XS.dup Xr18.here hx rfl (hb hby at_100) rfl rfl ?_
    show Steps p.tables e below (Tr18.setTop (mkF m 101 #[.val (.int p0), .val (.int p1), .val (.int p2), .unset, .unset] [(.ref br1), (.ref br1)])) _
    refine XS.bipush Xr18.here hx rfl (hb hby at_101) ?_
    show Steps p.tables e below (Tr18.setTop (mkF m 103 #[.val (.int p0), .val (.int p1), .val (.int p2), .unset, .unset] [(.int (17 : Int32)), (.ref br1), (.ref br1)])) _
    refine Xr18.ldcInt hx hown (mvT hZ (hw _ (List.mem_of_getElem? (i := 9) rfl))) (g := (mkF m 103 #[.val (.int p0), .val (.int p1), .val (.int p2), .unset, .unset] [(.int (17 : Int32)), (.ref br1), (.ref br1)])) rfl (hb hby at_103) _ ?_
    show Steps p.tables e below (Tr18.setTop (mkF m 105 #[.val (.int p0), .val (.int p1), .val (.int p2), .unset, .unset] [(.int (1114111 : Int32)), (.int (17 : Int32)), (.ref br1), (.ref br1)])) _
    refine str19 _ ?_
    show Steps p.tables e below (Tr19.setTop (mkF m 106 #[.val (.int p0), .val (.int p1), .val (.int p2), .unset, .unset] [(.ref br1)])) _
    refine XS.dup Xr19.here hx rfl (hb hby at_106) rfl rfl ?_
    show Steps p.tables e below (Tr19.setTop (mkF m 107 #[.val (.int p0), .val (.int p1), .val (.int p2), .unset, .unset] [(.ref br1), (.ref br1)])) _
    refine XS.bipush Xr19.here hx rfl (hb hby at_107) ?_
    show Steps p.tables e below (Tr19.setTop (mkF m 109 #[.val (.int p0), .val (.int p1), .val (.int p2), .unset, .unset] [(.int (18 : Int32)), (.ref br1), (.ref br1)])) _
    refine Xr19.ldcInt hx hown (mvT hZ (hw _ (List.mem_of_getElem? (i := 10) rfl))) (g := (mkF m 109 #[.val (.int p0), .val (.int p1), .val (.int p2), .unset, .unset] [(.int (18 : Int32)), (.ref br1), (.ref br1)])) rfl (hb hby at_109) _ ?_
    show Steps p.tables e below (Tr19.setTop (mkF m 111 #[.val (.int p0), .val (.int p1), .val (.int p2), .unset, .unset] [(.int (1114112 : Int32)), (.int (18 : Int32)), (.ref br1), (.ref br1)])) _
    refine str20 _ ?_
    show Steps p.tables e below (Tr20.setTop (mkF m 112 #[.val (.int p0), .val (.int p1), .val (.int p2), .unset, .unset] [(.ref br1)])) _
    refine XS.astoreN Xr20.here hx rfl (hb hby at_112) rfl rfl (l' := #[.val (.int p0), .val (.int p1), .val (.int p2), .val (.ref br1), .unset]) rfl ?_
    show Steps p.tables e below (Tr20.setTop (mkF m 113 #[.val (.int p0), .val (.int p1), .val (.int p2), .val (.ref br1), .unset] [])) _
    refine XS.aloadN Xr20.here hx rfl (hb hby at_113) rfl rfl ?_
    show Steps p.tables e below (Tr20.setTop (mkF m 114 #[.val (.int p0), .val (.int p1), .val (.int p2), .val (.ref br1), .unset] [(.ref br1)])) _
    refine XS.iloadN Xr20.here hx rfl (hb hby at_114) rfl ?_
    show Steps p.tables e below (Tr20.setTop (mkF m 115 #[.val (.int p0), .val (.int p1), .val (.int p2), .val (.ref br1), .unset] [(.int p1), (.ref br1)])) _
    refine Xr20.ldcInt hx hown (mvT hZ (hw _ (List.mem_of_getElem? (i := 11) rfl))) (g := (mkF m 115 #[.val (.int p0), .val (.int p1), .val (.int p2), .val (.ref br1), .unset] [(.int p1), (.ref br1)])) rfl (hb hby at_115) _ ?_
    show Steps p.tables e below (Tr20.setTop (mkF m 117 #[.val (.int p0), .val (.int p1), .val (.int p2), .val (.ref br1), .unset] [(.int (2147483647 : Int32)), (.int p1), (.ref br1)])) _
    refine XS.iand Xr20.here hx rfl (hb hby at_117) rfl ?_
    show Steps p.tables e below (Tr20.setTop (mkF m 118 #[.val (.int p0), .val (.int p1), .val (.int p2), .val (.ref br1), .unset] [(.int (p1 &&& (2147483647 : Int32))), (.ref br1)])) _
    refine XS.bipush Xr20.here hx rfl (hb hby at_118) ?_
    show Steps p.tables e below (Tr20.setTop (mkF m 120 #[.val (.int p0), .val (.int p1), .val (.int p2), .val (.ref br1), .unset] [(.int (19 : Int32)), (.int (p1 &&& (2147483647 : Int32))), (.ref br1)])) _
    refine Jvm.RoadKit.iremM Xr20 hx rfl (hb hby at_120) rfl (by decide) ?_
    show Steps p.tables e below (Tr20.setTop (mkF m 121 #[.val (.int p0), .val (.int p1), .val (.int p2), .val (.ref br1), .unset] [(.int ((p1 &&& (2147483647 : Int32)) % (19 : Int32))), (.ref br1)])) _
    refine Xr20.iaload hx (j := ((p1 &&& (2147483647 : Int32)) % (19 : Int32))) (v := (.int w)) (by rw [er20]; exact Ar.1) (State.isArrayOf_alike hZ.alike Ar.2.1) Ar.2.2 hin hat (g := (mkF m 121 #[.val (.int p0), .val (.int p1), .val (.int p2), .val (.ref br1), .unset] [(.int ((p1 &&& (2147483647 : Int32)) % (19 : Int32))), (.ref br1)])) rfl rfl (hb hby at_121) _ ?_
    show Steps p.tables e below (Tr20.setTop (mkF m 122 #[.val (.int p0), .val (.int p1), .val (.int p2), .val (.ref br1), .unset] [(.int w)])) _
    refine XS.iloadN Xr20.here hx rfl (hb hby at_122) rfl ?_
    show Steps p.tables e below (Tr20.setTop (mkF m 123 #[.val (.int p0), .val (.int p1), .val (.int p2), .val (.ref br1), .unset] [(.int p2), (.int w)])) _
    refine XS.iconst Xr20.here hx rfl (hb hby at_123) ?_
    show Steps p.tables e below (Tr20.setTop (mkF m 124 #[.val (.int p0), .val (.int p1), .val (.int p2), .val (.ref br1), .unset] [(.int (3 : Int32)), (.int p2), (.int w)])) _
    refine XS.iand Xr20.here hx rfl (hb hby at_124) rfl ?_
    show Steps p.tables e below (Tr20.setTop (mkF m 125 #[.val (.int p0), .val (.int p1), .val (.int p2), .val (.ref br1), .unset] [(.int (p2 &&& (3 : Int32))), (.int w)])) _
    refine XS.iconst Xr20.here hx rfl (hb hby at_125) ?_
    show Steps p.tables e below (Tr20.setTop (mkF m 126 #[.val (.int p0), .val (.int p1), .val (.int p2), .val (.ref br1), .unset] [(.int (1 : Int32)), (.int (p2 &&& (3 : Int32))), (.int w)])) _
    refine XS.isub Xr20.here hx rfl (hb hby at_126) rfl ?_
    show Steps p.tables e below (Tr20.setTop (mkF m 127 #[.val (.int p0), .val (.int p1), .val (.int p2), .val (.ref br1), .unset] [(.int ((p2 &&& (3 : Int32)) - (1 : Int32))), (.int w)])) _
    refine XS.iadd Xr20.here hx rfl (hb hby at_127) rfl ?_
    show Steps p.tables e below (Tr20.setTop (mkF m 128 #[.val (.int p0), .val (.int p1), .val (.int p2), .val (.ref br1), .unset] [(.int (w + ((p2 &&& (3 : Int32)) - (1 : Int32))))])) _
    refine XS.istore Xr20.here hx rfl (hb hby at_128) rfl (l' := #[.val (.int p0), .val (.int p1), .val (.int p2), .val (.ref br1), .val (.int (w + ((p2 &&& (3 : Int32)) - (1 : Int32))))]) rfl ?_
    show Steps p.tables e below (Tr20.setTop (mkF m 130 #[.val (.int p0), .val (.int p1), .val (.int p2), .val (.ref br1), .val (.int (w + ((p2 &&& (3 : Int32)) - (1 : Int32))))] [])) _
    refine XS.iloadN Xr20.here hx rfl (hb hby at_130) rfl ?_
    show Steps p.tables e below (Tr20.setTop (mkF m 131 #[.val (.int p0), .val (.int p1), .val (.int p2), .val (.ref br1), .val (.int (w + ((p2 &&& (3 : Int32)) - (1 : Int32))))] [(.int p0)])) _
    refine str21 _ ?_
    show Steps p.tables e below (Tr21.setTop (mkF m 134 #[.val (.int p0), .val (.int p1), .val (.int p2), .val (.ref br1), .val (.int (w + ((p2 &&& (3 : Int32)) - (1 : Int32))))] [(.int (f_char p0))])) _
    refine XS.iloadN Xr21.here hx rfl (hb hby at_134) rfl ?_
    show Steps p.tables e below (Tr21.setTop (mkF m 135 #[.val (.int p0), .val (.int p1), .val (.int p2), .val (.ref br1), .val (.int (w + ((p2 &&& (3 : Int32)) - (1 : Int32))))] [(.int p0), (.int (f_char p0))])) _
    refine str22 _ ?_
    show Steps p.tables e below (Tr22.setTop (mkF m 138 #[.val (.int p0), .val (.int p1), .val (.int p2), .val (.ref br1), .val (.int (w + ((p2 &&& (3 : Int32)) - (1 : Int32))))] [(.int (f_ref p0)), (.int (f_char p0))])) _
    refine XS.icmpNo Xr22.here hx rfl (hb hby at_138) rfl (teq (own_eq p0)).2 ?_
    show Steps p.tables e below (Tr22.setTop (mkF m 141 #[.val (.int p0), .val (.int p1), .val (.int p2), .val (.ref br1), .val (.int (w + ((p2 &&& (3 : Int32)) - (1 : Int32))))] [])) _
    refine XS.iload Xr22.here hx rfl (hb hby at_141) rfl ?_
    show Steps p.tables e below (Tr22.setTop (mkF m 143 #[.val (.int p0), .val (.int p1), .val (.int p2), .val (.ref br1), .val (.int (w + ((p2 &&& (3 : Int32)) - (1 : Int32))))] [(.int (w + ((p2 &&& (3 : Int32)) - (1 : Int32))))])) _
    refine str23 _ ?_
    show Steps p.tables e below (Tr23.setTop (mkF m 146 #[.val (.int p0), .val (.int p1), .val (.int p2), .val (.ref br1), .val (.int (w + ((p2 &&& (3 : Int32)) - (1 : Int32))))] [(.int (f_char (w + ((p2 &&& (3 : Int32)) - (1 : Int32)))))])) _
    refine XS.iload Xr23.here hx rfl (hb hby at_146) rfl ?_
    show Steps p.tables e below (Tr23.setTop (mkF m 148 #[.val (.int p0), .val (.int p1), .val (.int p2), .val (.ref br1), .val (.int (w + ((p2 &&& (3 : Int32)) - (1 : Int32))))] [(.int (w + ((p2 &&& (3 : Int32)) - (1 : Int32)))), (.int (f_char (w + ((p2 &&& (3 : Int32)) - (1 : Int32)))))])) _
    refine str24 _ ?_
    show Steps p.tables e below (Tr24.setTop (mkF m 151 #[.val (.int p0), .val (.int p1), .val (.int p2), .val (.ref br1), .val (.int (w + ((p2 &&& (3 : Int32)) - (1 : Int32))))] [(.int (f_ref (w + ((p2 &&& (3 : Int32)) - (1 : Int32))))), (.int (f_char (w + ((p2 &&& (3 : Int32)) - (1 : Int32)))))])) _
    refine XS.icmpNo Xr24.here hx rfl (hb hby at_151) rfl (teq (own_eq (w + ((p2 &&& (3 : Int32)) - (1 : Int32))))).2 ?_
    show Steps p.tables e below (Tr24.setTop (mkF m 154 #[.val (.int p0), .val (.int p1), .val (.int p2), .val (.ref br1), .val (.int (w + ((p2 &&& (3 : Int32)) - (1 : Int32))))] [])) _
    refine XS.iconst Xr24.here hx rfl (hb hby at_154) ?_
    show Steps p.tables e below (Tr24.setTop (mkF m 155 #[.val (.int p0), .val (.int p1), .val (.int p2), .val (.ref br1), .val (.int (w + ((p2 &&& (3 : Int32)) - (1 : Int32))))] [(.int (1 : Int32))])) _
    refine XS.goto Xr24.here hx rfl (pc0 := 155) (pc' := 159) rfl (hb hby at_155) (by decide) (by decide) ?_
    show Steps p.tables e below (Tr24.setTop (mkF m 159 #[.val (.int p0), .val (.int p1), .val (.int p2), .val (.ref br1), .val (.int (w + ((p2 &&& (3 : Int32)) - (1 : Int32))))] [(.int (1 : Int32))])) _
    exact retN Xr24 hx (t := .boolean) Bd.returns (by simp) (hb hby at_159) hr
  · show Q_law Z p0 p1 p2 h0 n0 _ Tr24.heap _
    rw [er24]
    exact ⟨rfl, Nr24⟩
set_option maxRecDepth 65536 in
set_option maxHeartbeats 40000000 in
theorem comes_1 {Post : Tables → Env → Array Value → State → Outcome → State → Prop} (hpost : ∀ tb e args s v u, (limb_1_1.after args s (.returned v) u = true ∧ limb_1_2.after args s (.returned v) u = true ∧ True) → FrameEnd s (.returned v) u (Jvm.fieldLocs frame_1_writes args s ++ Jvm.arrayLocs frame_1_arrays args s ++ Jvm.staticLocs frame_1_statics s) 16 128 → Post tb e args s (.returned v) u) :
    ArmFor flags0 classFile x code maxLocals ret World_1 tables_1 room_1 Calls_1 rest_1 Pre_1 Post := by
  intro l hfl _ _ p e ha hc hk s m args below hf hA hF happ hP
  obtain ⟨hcalls, hrest, hpre⟩ := hP
  obtain ⟨-, -, -, hnamed, -, -, -, hat⟩ := (Spec.applies_iff hf).mp happ
  obtain ⟨hg, hn⟩ := and_e (Cond.before_iff.mp (show (Jvm.Cond.and given_1 narrow_1).before args s = true from hpre))
  obtain ⟨hcount, hq0⟩ := and_e hg
  obtain ⟨ha0, hq1⟩ := and_e hq0
  obtain ⟨ha1, hq2⟩ := and_e hq1
  have ha2 := hq2
  obtain ⟨w0, w1, w2, rfl⟩ : ∃ w0 w1 w2 : Value, args = #[w0, w1, w2] := by
    have hs : args.size = 3 := by simpa [Cond.value, given_1] using hcount
    obtain ⟨L⟩ := args
    match L, hs with
    | [w0, w1, w2], _ => exact ⟨w0, w1, w2, rfl⟩
  have hw := fun d (hd : d ∈ tables_1) => atoms_spec (ws := Jvm.Cond.code x code maxLocals ret :: tables_1) hat d (List.mem_cons_of_mem _ hd)
  have hfit : Fit s := fun {y c} hc i hi => by
    obtain ⟨ha, rfl⟩ := Array.getElem?_eq_some_iff.mp hc
    have q := List.all_eq_true.mp ((Array.all_eq_true_iff_forall_mem.mp hF) _ (Array.getElem_mem ha)) i (List.mem_range.mpr hi)
    simpa [Array.getElem?_eq_getElem hi] using q
  obtain ⟨i0, ei0⟩ := is_v ha0
  obtain rfl : w0 = (.int i0) := Option.some.inj ei0
  obtain ⟨i1, ei1⟩ := is_v ha1
  obtain rfl : w1 = (.int i1) := Option.some.inj ei1
  obtain ⟨i2, ei2⟩ := is_v ha2
  obtain rfl : w2 = (.int i2) := Option.some.inj ei2
  obtain ⟨n, o, h1, h2, h3, _, L, rfl, ⟨rfl, N⟩, hq⟩ := rm_law l s _ hw tables_1 i0 i1 i2  s.heap s.heap.size (Nat.le_refl _)  p e ha hc hk s m _ below hf ((Spec.applies_iff_loose hf).mp happ).1 ⟨rfl, State.Warmed39.refl s, rfl⟩ trivial
  refine ⟨n, _, h1, h2, h3, hpost _ _ _ _ _ _ ⟨Cond.after_iff.mpr rfl, Cond.after_iff.mpr (eq_i res_at (Term.int_eval (1)) rfl), trivial⟩ ⟨hq.1, hq.2.1, (hq.2.2.sift fun y hy => Or.inr (N y hy)).mono (by decide) (by decide)⟩⟩
theorem main_1_1 : Claimed_1_1 := comes_1 fun _ _ _ _ _ _ h hF => ⟨h.1, hF⟩
theorem main_1_2 : Claimed_1_2 := comes_1 fun _ _ _ _ _ _ h hF => ⟨h.2.1, hF⟩
end Jvm.Pilot.@@N@@
namespace Jvm.Pilot.@@N@@
open Jvm Jvm.ClassFile Sem Op Lib Jvm.Free Jvm.Stand Jvm.Pilot.@@N@@.Jvm.D
/-! MADE BY PROGRAM (witnessworld.py) out of the Statement's table words and the real class files: 9 classes; the members and pool entries that the words name. The judged class is class 1, her method 2. -/
namespace start1
open Jvm.ClassFile
def u (s : String) : CpInfo := .utf8 (stringToUtf16 s)
/-- a pool by its gaps: so many unusable entries, then the entry; so many at the end -/
def gap : Nat → List CpInfo → List CpInfo
  | 0, r => r
  | n + 1, r => .unusable :: gap n r
def poolList (es : List (Nat × CpInfo)) (last : Nat) : List CpInfo := es.foldr (fun e r => gap e.1 (e.2 :: r)) (gap last [])
def pool (es : List (Nat × CpInfo)) (last : Nat) : Array CpInfo := ⟨poolList es last⟩
def fileOf (pool : Array CpInfo) (this : Nat) (attrs : Array Attribute := #[]) (ms : Array MethodInfo := #[]) (fl : Nat := 33) (sup : Nat := 0) (ifs : Array Nat := #[]) (fds : Array FieldInfo := #[]) : ClassFile where
  minorVersion := 0
  majorVersion := 65
  constantPool := pool
  accessFlags := fl
  thisClass := this
  superClass := sup
  interfaces := ifs
  fields := fds
  methods := ms
  attributes := attrs
def plain (name : String) (sup : Option ClassId) : Class where
  name := name
  kind := .ordinary
  loader := none
  accessFlags := 33
  super := sup
  interfaces := #[]
  cf := none
  fields := #[]
  methods := #[]
  instanceTypes := #[]
  staticTypes := #[]
  resolved := #[]
  callSites := []
  init := .initialized
  statics := none
  mirror := none

def pool0 : Array CpInfo := pool [(5, u "<init>"), (0, u "()V"), (1, .class_ 10), (1, u "java/lang/Object")] 113

def k0m0 : Method := { name := "<init>", desc := "()V", sig := { parameters := [], returnType := none }, accessFlags := 1, code := none }
/-- java/lang/Object -/
def k0 : Class := { plain "java/lang/Object" none with
  accessFlags := 33
  interfaces := #[]
  cf := some (fileOf pool0 8 #[] #[{ accessFlags := 1, nameIndex := 5, descriptorIndex := 6, attributes := #[] }] 33 0 #[] #[])
  fields := #[]
  methods := #[k0m0]
  instanceTypes := #[]
  staticTypes := #[]
  resolved := Array.replicate 124 none
  statics := none }

def pool1 : Array CpInfo := pool [(2, .class_ 4), (1, u "java/lang/Object"), (0, u "<init>"), (0, u "()V"), (0, .integer 55296), (0, .integer 57343), (0, .integer 65534), (0, .integer 65535), (0, .integer 1114111), (0, .integer 55295), (0, .integer 57344), (0, .integer 65533), (0, .integer 65536), (0, .integer 1114112), (0, .integer 2147483647), (0, .methodref 19 20), (0, .class_ 21), (0, .nameAndType 22 23), (0, u "com/example/ostravice/ostravice/value/XmlChars"), (0, u "isChar"), (0, u "(I)Z"), (0, .methodref 25 26), (0, .class_ 27), (0, .nameAndType 28 23), (0, u "com/example/ostravice/ostravice/value/XmlCharsIsCharPinLaw"), (0, u "reference"), (3, u "law"), (0, u "(III)Z")] 4

def k1m0 : Method := { name := "<init>", desc := "()V", sig := { parameters := [], returnType := none }, accessFlags := 2, code := none }
def k1c1 : Code := { maxStack := 2, maxLocals := 2, code := method_2_code, exceptionTable := #[], attributes := #[] }
def k1m1 : Method := { name := "reference", desc := "(I)Z", sig := { parameters := [.int], returnType := some .boolean }, accessFlags := 10, code := some k1c1 }
def k1c2 : Code := { maxStack := 4, maxLocals := 5, code := code, exceptionTable := #[], attributes := #[] }
def k1m2 : Method := { name := "law", desc := "(III)Z", sig := { parameters := [.int, .int, .int], returnType := some .boolean }, accessFlags := 9, code := some k1c2 }
/-- com/example/ostravice/ostravice/value/XmlCharsIsCharPinLaw -/
def k1 : Class := { plain "com/example/ostravice/ostravice/value/XmlCharsIsCharPinLaw" (some 0) with
  accessFlags := 49
  interfaces := #[]
  cf := some (fileOf pool1 25 #[] #[{ accessFlags := 2, nameIndex := 5, descriptorIndex := 6, attributes := #[] }, { accessFlags := 10, nameIndex := 28, descriptorIndex := 23, attributes := #[] }, { accessFlags := 9, nameIndex := 32, descriptorIndex := 33, attributes := #[] }] 49 2 #[] #[])
  fields := #[]
  methods := #[k1m0, k1m1, k1m2]
  instanceTypes := #[]
  staticTypes := #[]
  resolved := Array.replicate 38 none
  statics := none }

def pool2 : Array CpInfo := pool [(2, .class_ 4), (1, u "java/lang/Object"), (0, u "<init>"), (0, u "()V"), (0, .integer 55295), (0, .integer 57344), (0, .integer 65533), (0, .integer 65536), (0, .integer 1114111), (1, .class_ 15), (1, u "com/example/ostravice/ostravice/value/XmlChars"), (0, u "NAME_START_CHARS"), (0, u "[I"), (7, u "(I)Z"), (2, u "NAME_CHARS_ADDED"), (74, u "isChar")] 15

def k2m0 : Method := { name := "<init>", desc := "()V", sig := { parameters := [], returnType := none }, accessFlags := 2, code := none }
def k2c1 : Code := { maxStack := 2, maxLocals := 1, code := prog_85_method_2_code, exceptionTable := #[], attributes := #[] }
def k2m1 : Method := { name := "isChar", desc := "(I)Z", sig := { parameters := [.int], returnType := some .boolean }, accessFlags := 9, code := some k2c1 }
/-- com/example/ostravice/ostravice/value/XmlChars -/
def k2 : Class := { plain "com/example/ostravice/ostravice/value/XmlChars" (some 0) with
  accessFlags := 49
  interfaces := #[]
  cf := some (fileOf pool2 13 #[] #[{ accessFlags := 2, nameIndex := 5, descriptorIndex := 6, attributes := #[] }, { accessFlags := 9, nameIndex := 103, descriptorIndex := 25, attributes := #[] }] 49 2 #[] #[{ accessFlags := 26, nameIndex := 16, descriptorIndex := 17, attributes := #[] }, { accessFlags := 26, nameIndex := 28, descriptorIndex := 17, attributes := #[] }])
  fields := #[{ name := "NAME_START_CHARS", type := (.array .int), accessFlags := 26, slot := 0, constantValue := 0 }, { name := "NAME_CHARS_ADDED", type := (.array .int), accessFlags := 26, slot := 1, constantValue := 0 }]
  methods := #[k2m0, k2m1]
  instanceTypes := #[]
  staticTypes := #[(.array .int), (.array .int)]
  resolved := Array.replicate 119 none
  statics := none }

def pool3 : Array CpInfo := pool [(1, u "java/lang/Cloneable"), (0, .class_ 1), (0, u "java/lang/Object"), (0, .class_ 3)] 3

/-- java/lang/Cloneable -/
def k3 : Class := { plain "java/lang/Cloneable" (some 0) with
  accessFlags := 1537
  interfaces := #[]
  cf := some (fileOf pool3 2 #[] #[] 1537 4 #[] #[])
  fields := #[]
  methods := #[]
  instanceTypes := #[]
  staticTypes := #[]
  resolved := Array.replicate 8 none
  statics := none }

def pool4 : Array CpInfo := pool [(1, u "java/io/Serializable"), (0, .class_ 1), (0, u "java/lang/Object"), (0, .class_ 3)] 3

/-- java/io/Serializable -/
def k4 : Class := { plain "java/io/Serializable" (some 0) with
  accessFlags := 1537
  interfaces := #[]
  cf := some (fileOf pool4 2 #[] #[] 1537 4 #[] #[])
  fields := #[]
  methods := #[]
  instanceTypes := #[]
  staticTypes := #[]
  resolved := Array.replicate 8 none
  statics := none }

/-- the primitive byte -/
def k5 : Class := { plain "byte" none with kind := .primitive 'B', accessFlags := 0x411 }
/-- [B -/
def k6 : Class := { plain "[B" (some 0) with kind := .array 5 .byte, interfaces := #[3, 4], accessFlags := 1041 }

/-- the primitive int -/
def k7 : Class := { plain "int" none with kind := .primitive 'I', accessFlags := 0x411 }
/-- [I -/
def k8 : Class := { plain "[I" (some 0) with kind := .array 7 .int, interfaces := #[3, 4], accessFlags := 1041 }

def heap : Heap := #[]
def classes : Array Class := #[k0, k1, k2, k3, k4, k5, k6, k7, k8]
def interned : List (Array UInt16 × Addr) := []
def slotsUsed : Nat := 0
def theMethod : MethodId := ⟨1, 2⟩
def args0 : Array Value := #[.int 5, .int 7, .int 1]
def aboutOver (below : List Frame) : State where
  vm := { classes := classes, interned := interned.toArray }
  heap := heap
  slotsUsed := slotsUsed
  threads := #[{ frames := .invoking theMethod args0 :: below }]
def below0 : List Frame := [.native { method := ⟨0, 0⟩, args := #[] }]
def about1 : State := aboutOver below0
def p0 : Program := .bare "" "" ""
def e0 : Env := launch0.env 0 0 0
theorem w_frames : about1.frames = Frame.invoking theMethod args0 :: below0 := rfl
set_option maxRecDepth 65536 in
theorem w_args : argsFit about1.vm theMethod args0 = true := by decide +kernel
set_option maxRecDepth 65536 in
theorem w_heap : heapFits about1 = true := by decide +kernel
set_option maxRecDepth 65536 in
theorem w_runnable : about1.curStatus? = some .runnable := by decide +kernel
set_option maxRecDepth 65536 in
theorem w_alone : about1.alone = true := by decide +kernel
set_option maxRecDepth 65536 in
theorem w_named : about1.methodNamed? x = some theMethod := by decide +kernel
set_option maxRecDepth 65536 in
theorem w_hears : about1.hears theMethod below0 = true := by decide +kernel
set_option maxRecDepth 65536 in
theorem w_ripe : about1.ripe theMethod args0 below0 = true := by decide +kernel
theorem w_running : about1.status = .running := rfl
set_option maxRecDepth 65536 in
theorem w_room : about1.hasRoom e0.platform room_1 = true :=
  launch0.hasRoom_least _ room_1 (by decide +kernel) (by decide +kernel) (by decide +kernel) (by decide +kernel) (by decide +kernel) (by decide +kernel)
theorem allAtoms_all (ts : List Jvm.Cond) (a : Array Jvm.Value) (st : Jvm.State) : (allAtoms ts).before a st = ts.all (fun c => c.before a st) := by
  induction ts with
  | nil => rfl
  | cons c t ih =>
    show (Jvm.Cond.and c (allAtoms t)).before a st = _
    rw [Jvm.Cond.before_and, ih, List.all_cons]
def words1 : List Jvm.Cond := Jvm.Cond.code x code maxLocals ret :: tables_1
/-- a 'code' word, met by the world's own term for the bytes: nothing is compared byte by byte -/
theorem code_word {y : MethodName} {bytes : ByteArray} {mx : Nat} {rt : Option FieldType} {a : Array Value} {s : State} {m : MethodId} {meth : Method} {c : Code} (h1 : s.methodNamed? y = some m) (h2 : s.vm.method? m = some meth) (h3 : meth.code = some c) (h4 : c.code = bytes)
    (h5 : (c.maxLocals == mx && c.exceptionTable.isEmpty && decide (c.maxStack ≤ mostOperands) && decide (meth.sig.returnType = rt) && !meth.locks && decide (parseMethodDescriptor y.desc = some meth.sig)) = true) : (Jvm.Cond.code y bytes mx rt).before a s = true := by
  simp only [Bool.and_eq_true, beq_iff_eq, Bool.not_eq_true', decide_eq_true_eq] at h5
  obtain ⟨⟨⟨⟨⟨g1, g2⟩, g3⟩, g4⟩, g5⟩, g6⟩ := h5
  simp [Cond.before, Cond.holds, Cond.value, h1, h2, h3, h4, g1, g2, g3, g4, g5, g6]
def isCode : Jvm.Cond → Bool
  | .code _ _ _ _ => true
  | _ => false
theorem all_split {L : List Jvm.Cond} {P : Jvm.Cond → Bool} (h1 : L.all (fun c => isCode c || P c) = true) (h2 : ∀ c ∈ L.filter isCode, P c = true) : L.all P = true := by
  refine List.all_eq_true.mpr fun c hc => ?_
  have h := List.all_eq_true.mp h1 c hc
  rcases Bool.eq_false_or_eq_true (isCode c) with hi | hi
  · exact h2 c (List.mem_filter.mpr ⟨hc, hi⟩)
  · simpa [hi] using h
set_option maxRecDepth 65536 in
theorem w_c0 : (Jvm.Cond.code x code maxLocals ret).before args0 about1 = true := code_word (m := ⟨1, 2⟩) (meth := k1m2) (c := k1c2) (by decide +kernel) rfl rfl rfl (by decide +kernel)
set_option maxRecDepth 65536 in
theorem w_c1 : (Jvm.Cond.code ({ cls := "com/example/ostravice/ostravice/value/XmlChars", name := "isChar", desc := "(I)Z" } : Jvm.MethodName) prog_85_method_2_code (1 : Nat) (Option.some Jvm.ClassFile.FieldType.boolean)).before args0 about1 = true := code_word (m := ⟨2, 1⟩) (meth := k2m1) (c := k2c1) (by decide +kernel) rfl rfl rfl (by decide +kernel)
set_option maxRecDepth 65536 in
theorem w_c2 : (Jvm.Cond.code ({ cls := "com/example/ostravice/ostravice/value/XmlCharsIsCharPinLaw", name := "reference", desc := "(I)Z" } : Jvm.MethodName) method_2_code (2 : Nat) (Option.some Jvm.ClassFile.FieldType.boolean)).before args0 about1 = true := code_word (m := ⟨1, 1⟩) (meth := k1m1) (c := k1c1) (by decide +kernel) rfl rfl rfl (by decide +kernel)
def codes1 : List Jvm.Cond := [Jvm.Cond.code x code maxLocals ret, Jvm.Cond.code ({ cls := "com/example/ostravice/ostravice/value/XmlChars", name := "isChar", desc := "(I)Z" } : Jvm.MethodName) prog_85_method_2_code (1 : Nat) (Option.some Jvm.ClassFile.FieldType.boolean), Jvm.Cond.code ({ cls := "com/example/ostravice/ostravice/value/XmlCharsIsCharPinLaw", name := "reference", desc := "(I)Z" } : Jvm.MethodName) method_2_code (2 : Nat) (Option.some Jvm.ClassFile.FieldType.boolean)]
set_option maxRecDepth 65536 in
theorem codes_eq : words1.filter isCode = codes1 := rfl
theorem w_codes : ∀ c ∈ words1.filter isCode, c.before args0 about1 = true := by
  rw [codes_eq]
  intro c hc
  simp only [codes1, List.mem_cons, List.not_mem_nil, or_false] at hc
  rcases hc with rfl | rfl | rfl
  · exact w_c0
  · exact w_c1
  · exact w_c2
set_option maxRecDepth 65536 in
theorem w_t1 : (words1.take 24).all (fun c => isCode c || c.before args0 about1) = true := by decide +kernel
set_option maxRecDepth 65536 in
theorem w_t2 : (words1.drop 24).all (fun c => isCode c || c.before args0 about1) = true := by decide +kernel
theorem w_tables : (allAtoms (Jvm.Cond.code x code maxLocals ret :: tables_1)).before args0 about1 = true := by
  rw [allAtoms_all]
  show words1.all (fun c => c.before args0 about1) = true
  refine all_split ?_ w_codes
  rw [← List.take_append_drop 24 words1, List.all_append, w_t1, w_t2]
  rfl
set_option maxRecDepth 65536 in
theorem w_case : (Jvm.Cond.and given_1 narrow_1).before args0 about1 = true := by decide +kernel
theorem w_applies : (headSpec (Jvm.Cond.code x code maxLocals ret :: tables_1) room_1).applies x e0.platform about1 = true :=
  (Spec.applies_iff w_frames).mpr ⟨w_running, w_runnable, w_alone, w_named, w_hears, w_ripe, w_room, w_tables⟩
theorem atStart : AtStart classFile x code maxLocals ret World_1 tables_1 room_1 Calls_1 rest_1 Pre_1 launch0 p0 e0 about1 theMethod args0 below0 :=
  ⟨lists_1, trivial, launch0.admits_env _ _ _, launch0.least_env, fairChoices_fair.cas, fairChoices_fair.clock, w_frames, w_args, w_heap, w_applies, trivial, trivial, w_case⟩
end start1
theorem witness_1 : WitnessClaimed_1 := ⟨start1.p0, start1.e0, start1.about1, start1.theMethod, start1.args0, start1.below0, start1.atStart⟩
end Jvm.Pilot.@@N@@
