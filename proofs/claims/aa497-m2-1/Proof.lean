import JvmDerived
import JvmDerived.Pilot.@@N@@Statement
import JvmDerived.Pilot.@@N@@Code
set_option linter.unusedVariables false
set_option linter.unusedSimpArgs false
@@BLOCK:NumsL.lean.txt@@
namespace Jvm.RoadKit
open Sem ClassFile Op Lib Jvm.Stand Jvm.Free Jvm.LawKit
section New
variable {p : Program} {l : Launch} {e : Env} {R : Room} {s : State} {m : MethodId} {args : Array Value} {below : List Frame} {meth : Method} {c : Code} {T : State} {locs : List Loc} {cells slots : Nat}
theorem retI (X : Stand p l e R s m args below meth c T locs cells slots) (hx : p.tables.exec = Jvm.exec) {pc : Nat} {Ls : Array Slot} {z : Int32} {rest : List Value} (hret : meth.sig.returnType = some .int) (hd : decode c.code pc = .ok (.ireturn, 1)) {fs : List Frame}
    (hl : ∀ (f : JFrame) (acts : List Action), f.method = m → f.locked = none → f.entered = [] → (doReturn e (T.setTop f) acts (some (.int z))).1 = T.setFrames fs) : Steps p.tables e below (T.setTop (mkF m pc Ls (.int z :: rest))) (T.setFrames fs) := by
  have hm' : T.vm.method? m = some meth := X.method'
  have hn : narrow .int (.int z) = .int z := rfl
  show Steps p.tables e below (T.setTop { method := m, pc := pc, locals := Ls, stack := _ :: rest, locked := none }) _
  jvm_step X.here [X.here.top, hx, hd, hm', hret, hn]
  first | (intro acts; rw [hl _ acts rfl rfl rfl]) | rw [hl _ _ rfl rfl rfl]
  exact Steps.refl _
end New
end Jvm.RoadKit
namespace Jvm.Pilot.@@N@@
open Jvm Jvm.ClassFile Sem Op Lib Jvm.Free Jvm.Stand Jvm.LawKit Jvm.RoadKit Bundle Jvm.Pilot.@@N@@.Jvm.D
theorem own_cmp_lt (x y : Int64) : lcmpW x y < 0 ↔ x < y := by
  unfold lcmpW
  split
  · rename_i h
    constructor
    · intro q; exact absurd q (by decide)
    · intro q; exact absurd (Int64.lt_trans q h) Int64.lt_irrefl
  · rename_i h
    split
    · rename_i q; subst q; exact ⟨fun z => absurd z (by decide), fun z => absurd z Int64.lt_irrefl⟩
    · rename_i q
      refine ⟨fun _ => ?_, fun _ => by decide⟩
      rw [Int64.lt_iff_toInt_lt]
      have q' : x.toInt ≠ y.toInt := fun z => q (Int64.toInt_inj.mp z)
      have h' : ¬ y.toInt < x.toInt := fun z => h (Int64.lt_iff_toInt_lt.mpr z)
      omega
theorem own_cmp_gt (x y : Int64) : 0 < lcmpW x y ↔ y < x := by
  unfold lcmpW
  split
  · rename_i h; exact ⟨fun _ => h, fun _ => by decide⟩
  · rename_i h
    split
    · exact ⟨fun z => absurd z (by decide), fun z => absurd z h⟩
    · exact ⟨fun z => absurd z (by decide), fun z => absurd z h⟩
theorem own_d (p b : Int32) : (p.toInt64 - b.toInt64).toInt = p.toInt - b.toInt := by
  have h1 := p.toInt_lt; have h2 := p.le_toInt; have h3 := b.toInt_lt; have h4 := b.le_toInt
  rw [Jvm.Kit.i64_sub (by rw [Jvm.Kit.i64_of_i32, Jvm.Kit.i64_of_i32]; omega) (by rw [Jvm.Kit.i64_of_i32, Jvm.Kit.i64_of_i32]; omega), Jvm.Kit.i64_of_i32, Jvm.Kit.i64_of_i32]
theorem own_gt (p b : Int32) : 0 < lcmpW (p.toInt64 - b.toInt64) 0 ↔ b < p := by
  rw [own_cmp_gt, Int64.lt_iff_toInt_lt, own_d, Int64.toInt_zero, Int32.lt_iff_toInt_lt]; omega
theorem own_lt (p b : Int32) : lcmpW (p.toInt64 - b.toInt64) 0 < 0 ↔ p < b := by
  rw [own_cmp_lt, Int64.lt_iff_toInt_lt, own_d, Int64.toInt_zero, Int32.lt_iff_toInt_lt]; omega
theorem own_asym {p b : Int32} (h : b < p) : ¬ p < b := by
  rw [Int32.lt_iff_toInt_lt] at h ⊢; omega
def f_of (p b : Int32) (wP wB wT : Addr) : Addr := if b < p then wP else if p < b then wB else wT
theorem f_gt {p b : Int32} (wP wB wT : Addr) (h : b < p) : f_of p b wP wB wT = wP := by unfold f_of; rw [if_pos h]
theorem f_lt {p b : Int32} (wP wB wT : Addr) (h : p < b) : f_of p b wP wB wT = wB := by unfold f_of; rw [if_neg (own_asym h), if_pos h]
theorem f_eq {p b : Int32} (wP wB wT : Addr) (h1 : ¬ b < p) (h2 : ¬ p < b) : f_of p b wP wB wT = wT := by unfold f_of; rw [if_neg h1, if_neg h2]
theorem d1_0 : decode prog_31_method_4_code 0 = .ok (.iload_n 0, 1) := by decide +kernel
theorem d1_1 : decode prog_31_method_4_code 1 = .ok (.iload_n 1, 1) := by decide +kernel
theorem d1_2 : decode prog_31_method_4_code 2 = .ok (.if_icmp .le 7, 3) := by decide +kernel
theorem d1_5 : decode prog_31_method_4_code 5 = .ok (.getstatic 3, 3) := by decide +kernel
theorem d1_8 : decode prog_31_method_4_code 8 = .ok (.areturn, 1) := by decide +kernel
theorem d1_9 : decode prog_31_method_4_code 9 = .ok (.iload_n 1, 1) := by decide +kernel
theorem d1_10 : decode prog_31_method_4_code 10 = .ok (.iload_n 0, 1) := by decide +kernel
theorem d1_11 : decode prog_31_method_4_code 11 = .ok (.if_icmp .le 7, 3) := by decide +kernel
theorem d1_14 : decode prog_31_method_4_code 14 = .ok (.getstatic 7, 3) := by decide +kernel
theorem d1_17 : decode prog_31_method_4_code 17 = .ok (.areturn, 1) := by decide +kernel
theorem d1_18 : decode prog_31_method_4_code 18 = .ok (.getstatic 10, 3) := by decide +kernel
theorem d1_21 : decode prog_31_method_4_code 21 = .ok (.areturn, 1) := by decide +kernel
theorem pn_of : plainName "com/example/baize/baize/rules/BaccaratCoup$Result" = true := by first | (simp [plainName, overriddenIn]; done) | decide +kernel
theorem ef_of (m : MethodId) (p0 : Int32) (p1 : Int32) : entryFrame m #[(.int p0), (.int p1)] 2 = mkF m 0 #[.val (.int p0), .val (.int p1)] [] := by first | (simp [entryFrame, mkF, argsToLocals, Value.category]; done) | rfl
def Q_of (Z : State) (p0 p1 : Int32) (wP wB wT : Addr) (h0 : Heap) (n0 : Nat) (v : Option Value) (h : Heap) (L : List Loc) : Prop := v = some (.ref (f_of p0 p1 wP wB wT)) ∧ Fr n0 L ∧ h = h0
set_option maxRecDepth 65536 in
set_option maxHeartbeats 40000000 in
theorem rm_of (l : Launch) (Z : State) (a0 : Array Value) (hw : ∀ d ∈ tables_1, d.before a0 Z = true) (ws : List Jvm.Cond) (p0 p1 : Int32) (wP wB wT : Addr) (h0 : Heap) (n0 : Nat) (Z0 : n0 ≤ h0.size) (S_P : Sta Z h0 "com/example/baize/baize/rules/BaccaratCoup$Result" "PLAYER" "Lcom/example/baize/baize/rules/BaccaratCoup$Result;" (.ref wP)) (S_B : Sta Z h0 "com/example/baize/baize/rules/BaccaratCoup$Result" "BANKER" "Lcom/example/baize/baize/rules/BaccaratCoup$Result;" (.ref wB)) (S_T : Sta Z h0 "com/example/baize/baize/rules/BaccaratCoup$Result" "TIE" "Lcom/example/baize/baize/rules/BaccaratCoup$Result;" (.ref wT)) :
    MetFree l (⟨"com/example/baize/baize/rules/BaccaratCoup$Result", "of", "(II)Lcom/example/baize/baize/rules/BaccaratCoup$Result;"⟩ : MethodName) (head1 (Jvm.Cond.code (⟨"com/example/baize/baize/rules/BaccaratCoup$Result", "of", "(II)Lcom/example/baize/baize/rules/BaccaratCoup$Result;"⟩ : MethodName) prog_31_method_4_code 2 (some (.object "com/example/baize/baize/rules/BaccaratCoup$Result")) :: ws) ({ frames := 0, cells := 0, slots := 0, locals := 0 } : Room)) (fun a U => a = #[(.int p0), (.int p1)] ∧ Z.Warmed39 U.vm ∧ U.heap = h0) (fun _ _ _ _ _ => True) (fun _ U o U' => ∃ v L, o = .returned v ∧ Q_of Z p0 p1 wP wB wT h0 n0 v U'.heap L ∧ FrameEnd U o U' L ({ frames := 0, cells := 0, slots := 0, locals := 0 } : Room).cells ({ frames := 0, cells := 0, slots := 0, locals := 0 } : Room).slots) := by
  refine MetFree.of_bodySF (plainFor_of_name pn_of) hisR ?_
  intro p e s m args below meth c s₁ Bd hml0 hP hK
  obtain ⟨rfl, hZ, hh⟩ := hP
  have hx := Bd.exec
  have hby := Bd.bytes
  have hml : c.maxLocals = 2 := hml0
  have hown : s.vm.findClass "com/example/baize/baize/rules/BaccaratCoup$Result" = some m.cls := findClass_of_methodNamed Bd.named
  have hnm := (name_of_methodNamed Bd.named Bd.method).1
  have X0 : Stand p l e ({ frames := 0, cells := 0, slots := 0, locals := 0 } : Room) s m #[(.int p0), (.int p1)] below meth c s₁ [] 0 0 := Stand.of_body Bd
  have e0 : s₁.heap = h0 := by rw [← hh, Bd.state]; rfl
  have N0 := Fr.nil n0
  have pre0 : ∀ tg, Steps p.tables e below (s₁.setTop (mkF m 0 #[.val (.int p0), .val (.int p1)] [])) tg → Steps p.tables e below (s₁.setTop (entryFrame m #[(.int p0), (.int p1)] 2)) tg := fun tg kg => castTop (ef_of m p0 p1) kg
  by_cases h1 : p1 < p0
  · have hf := f_gt wP wB wT h1
    obtain ⟨Tr1, Xr1, er1, str1⟩ := getS2 X0 hx hZ hown (host := "") (Or.inl (hw _ (List.mem_of_getElem? (i := 6) rfl))) Via.refl e0 S_P (g := (mkF m 5 #[.val (.int p0), .val (.int p1)] [])) rfl (hb hby d1_5)
    obtain ⟨fs, hr, hrun, hended, hW, hsame⟩ := Xr1.leave (v := some (.ref wP)) (fun h => by rw [Bd.returns] at h; cases h)
    refine ⟨_, _, pre0 _ ?_, hrun, hended, _, _, rfl, ?_, ⟨_, rfl⟩, hW, hsame.mono (by decide) (by decide)⟩
    · show Steps p.tables e below (s₁.setTop (mkF m 0 #[.val (.int p0), .val (.int p1)] [])) _
      refine XS.iloadN X0.here hx rfl (hb hby d1_0) rfl ?_
      show Steps p.tables e below (s₁.setTop (mkF m 1 #[.val (.int p0), .val (.int p1)] [(.int p0)])) _
      refine XS.iloadN X0.here hx rfl (hb hby d1_1) rfl ?_
      show Steps p.tables e below (s₁.setTop (mkF m 2 #[.val (.int p0), .val (.int p1)] [(.int p1), (.int p0)])) _
      refine XS.icmpNo X0.here hx rfl (hb hby d1_2) rfl (tlt h1).2.2.2 ?_
      show Steps p.tables e below (s₁.setTop (mkF m 5 #[.val (.int p0), .val (.int p1)] [])) _
      refine str1 _ ?_
      show Steps p.tables e below (Tr1.setTop (mkF m 8 #[.val (.int p0), .val (.int p1)] [(.ref wP)])) _
      jvm_step Xr1.here [Xr1.here.top, hx, (hb hby d1_8), Xr1.method', Bd.returns, Value.isRef, FieldType.isReference]
      first | (intro acts; rw [hr _ acts rfl rfl rfl]) | rw [hr _ _ rfl rfl rfl]
      exact Steps.refl _
    · show Q_of Z p0 p1 wP wB wT h0 n0 _ Tr1.heap _
      rw [er1]
      exact ⟨by rw [hf], N0, rfl⟩
  · by_cases h2 : p0 < p1
    · have hf := f_lt wP wB wT h2
      obtain ⟨Tr1, Xr1, er1, str1⟩ := getS2 X0 hx hZ hown (host := "") (Or.inl (hw _ (List.mem_of_getElem? (i := 4) rfl))) Via.refl e0 S_B (g := (mkF m 14 #[.val (.int p0), .val (.int p1)] [])) rfl (hb hby d1_14)
      obtain ⟨fs, hr, hrun, hended, hW, hsame⟩ := Xr1.leave (v := some (.ref wB)) (fun h => by rw [Bd.returns] at h; cases h)
      refine ⟨_, _, pre0 _ ?_, hrun, hended, _, _, rfl, ?_, ⟨_, rfl⟩, hW, hsame.mono (by decide) (by decide)⟩
      · show Steps p.tables e below (s₁.setTop (mkF m 0 #[.val (.int p0), .val (.int p1)] [])) _
        refine XS.iloadN X0.here hx rfl (hb hby d1_0) rfl ?_
        show Steps p.tables e below (s₁.setTop (mkF m 1 #[.val (.int p0), .val (.int p1)] [(.int p0)])) _
        refine XS.iloadN X0.here hx rfl (hb hby d1_1) rfl ?_
        show Steps p.tables e below (s₁.setTop (mkF m 2 #[.val (.int p0), .val (.int p1)] [(.int p1), (.int p0)])) _
        refine XS.icmpYes X0.here hx rfl (pc0 := 2) (pc' := 9) rfl (hb hby d1_2) rfl (flt h1).2.2.2 (by decide) (by decide) ?_
        show Steps p.tables e below (s₁.setTop (mkF m 9 #[.val (.int p0), .val (.int p1)] [])) _
        refine XS.iloadN X0.here hx rfl (hb hby d1_9) rfl ?_
        show Steps p.tables e below (s₁.setTop (mkF m 10 #[.val (.int p0), .val (.int p1)] [(.int p1)])) _
        refine XS.iloadN X0.here hx rfl (hb hby d1_10) rfl ?_
        show Steps p.tables e below (s₁.setTop (mkF m 11 #[.val (.int p0), .val (.int p1)] [(.int p0), (.int p1)])) _
        refine XS.icmpNo X0.here hx rfl (hb hby d1_11) rfl (tlt h2).2.2.2 ?_
        show Steps p.tables e below (s₁.setTop (mkF m 14 #[.val (.int p0), .val (.int p1)] [])) _
        refine str1 _ ?_
        show Steps p.tables e below (Tr1.setTop (mkF m 17 #[.val (.int p0), .val (.int p1)] [(.ref wB)])) _
        jvm_step Xr1.here [Xr1.here.top, hx, (hb hby d1_17), Xr1.method', Bd.returns, Value.isRef, FieldType.isReference]
        first | (intro acts; rw [hr _ acts rfl rfl rfl]) | rw [hr _ _ rfl rfl rfl]
        exact Steps.refl _
      · show Q_of Z p0 p1 wP wB wT h0 n0 _ Tr1.heap _
        rw [er1]
        exact ⟨by rw [hf], N0, rfl⟩
    · have hf := f_eq wP wB wT h1 h2
      obtain ⟨Tr1, Xr1, er1, str1⟩ := getS2 X0 hx hZ hown (host := "") (Or.inl (hw _ (List.mem_of_getElem? (i := 8) rfl))) Via.refl e0 S_T (g := (mkF m 18 #[.val (.int p0), .val (.int p1)] [])) rfl (hb hby d1_18)
      obtain ⟨fs, hr, hrun, hended, hW, hsame⟩ := Xr1.leave (v := some (.ref wT)) (fun h => by rw [Bd.returns] at h; cases h)
      refine ⟨_, _, pre0 _ ?_, hrun, hended, _, _, rfl, ?_, ⟨_, rfl⟩, hW, hsame.mono (by decide) (by decide)⟩
      · show Steps p.tables e below (s₁.setTop (mkF m 0 #[.val (.int p0), .val (.int p1)] [])) _
        refine XS.iloadN X0.here hx rfl (hb hby d1_0) rfl ?_
        show Steps p.tables e below (s₁.setTop (mkF m 1 #[.val (.int p0), .val (.int p1)] [(.int p0)])) _
        refine XS.iloadN X0.here hx rfl (hb hby d1_1) rfl ?_
        show Steps p.tables e below (s₁.setTop (mkF m 2 #[.val (.int p0), .val (.int p1)] [(.int p1), (.int p0)])) _
        refine XS.icmpYes X0.here hx rfl (pc0 := 2) (pc' := 9) rfl (hb hby d1_2) rfl (flt h1).2.2.2 (by decide) (by decide) ?_
        show Steps p.tables e below (s₁.setTop (mkF m 9 #[.val (.int p0), .val (.int p1)] [])) _
        refine XS.iloadN X0.here hx rfl (hb hby d1_9) rfl ?_
        show Steps p.tables e below (s₁.setTop (mkF m 10 #[.val (.int p0), .val (.int p1)] [(.int p1)])) _
        refine XS.iloadN X0.here hx rfl (hb hby d1_10) rfl ?_
        show Steps p.tables e below (s₁.setTop (mkF m 11 #[.val (.int p0), .val (.int p1)] [(.int p0), (.int p1)])) _
        refine XS.icmpYes X0.here hx rfl (pc0 := 11) (pc' := 18) rfl (hb hby d1_11) rfl (flt h2).2.2.2 (by decide) (by decide) ?_
        show Steps p.tables e below (s₁.setTop (mkF m 18 #[.val (.int p0), .val (.int p1)] [])) _
        refine str1 _ ?_
        show Steps p.tables e below (Tr1.setTop (mkF m 21 #[.val (.int p0), .val (.int p1)] [(.ref wT)])) _
        jvm_step Xr1.here [Xr1.here.top, hx, (hb hby d1_21), Xr1.method', Bd.returns, Value.isRef, FieldType.isReference]
        first | (intro acts; rw [hr _ acts rfl rfl rfl]) | rw [hr _ _ rfl rfl rfl]
        exact Steps.refl _
      · show Q_of Z p0 p1 wP wB wT h0 n0 _ Tr1.heap _
        rw [er1]
        exact ⟨by rw [hf], N0, rfl⟩
theorem pn_law : plainName "com/example/baize/baize/rules/ResultOfPinLaw" = true := by first | (simp [plainName, overriddenIn]; done) | decide +kernel
theorem pd_law_0 : parseMethodDescriptor "(II)Lcom/example/baize/baize/rules/BaccaratCoup$Result;" = some ⟨[.int, .int], some (.object "com/example/baize/baize/rules/BaccaratCoup$Result")⟩ := by decide +kernel
theorem ef_law (m : MethodId) (p0 : Int32) (p1 : Int32) : entryFrame m #[(.int p0), (.int p1)] maxLocals = mkF m 0 #[.val (.int p0), .val (.int p1), .unset, .unset, .unset, .unset, .unset, .unset, .unset] [] := by first | (simp [entryFrame, mkF, argsToLocals, Value.category, maxLocals]; done) | rfl
def Q_law (Z : State) (p0 : Int32) (p1 : Int32) (h0 : Heap) (n0 : Nat) (v : Option Value) (h : Heap) (L : List Loc) : Prop := v = some (.int (1 : Int32)) ∧ Fr n0 L
set_option maxRecDepth 65536 in
set_option maxHeartbeats 40000000 in
theorem rm_law (l : Launch) (Z : State) (a0 : Array Value) (hw : ∀ d ∈ tables_1, d.before a0 Z = true) (ws : List Jvm.Cond) (p0 : Int32) (p1 : Int32) (wP wB wT : Addr) (h0 : Heap) (n0 : Nat) (Z0 : n0 ≤ h0.size) (S_P : Sta Z h0 "com/example/baize/baize/rules/BaccaratCoup$Result" "PLAYER" "Lcom/example/baize/baize/rules/BaccaratCoup$Result;" (.ref wP)) (S_B : Sta Z h0 "com/example/baize/baize/rules/BaccaratCoup$Result" "BANKER" "Lcom/example/baize/baize/rules/BaccaratCoup$Result;" (.ref wB)) (S_T : Sta Z h0 "com/example/baize/baize/rules/BaccaratCoup$Result" "TIE" "Lcom/example/baize/baize/rules/BaccaratCoup$Result;" (.ref wT)) :
    MetFree l x (head1 (Jvm.Cond.code x code maxLocals ret :: ws) room_1) (fun a U => a = #[(.int p0), (.int p1)] ∧ Z.Warmed39 U.vm ∧ U.heap = h0) (fun _ _ _ _ _ => True) (fun _ U o U' => ∃ v L, o = .returned v ∧ Q_law Z p0 p1 h0 n0 v U'.heap L ∧ FrameEnd U o U' L room_1.cells room_1.slots) := by
  refine MetFree.of_bodySF (plainFor_of_name pn_law) hisR ?_
  intro p e s m args below meth c s₁ Bd hml0 hP hK
  obtain ⟨rfl, hZ, hh⟩ := hP
  have hx := Bd.exec
  have hby := Bd.bytes
  have hml : c.maxLocals = 9 := hml0
  have hown : s.vm.findClass "com/example/baize/baize/rules/ResultOfPinLaw" = some m.cls := findClass_of_methodNamed Bd.named
  have hnm := (name_of_methodNamed Bd.named Bd.method).1
  have X0 : Stand p l e room_1 s m #[(.int p0), (.int p1)] below meth c s₁ [] 0 0 := Stand.of_body Bd
  have e0 : s₁.heap = h0 := by rw [← hh, Bd.state]; rfl
  have N0 := Fr.nil n0
  have pre0 : ∀ tg, Steps p.tables e below (s₁.setTop (mkF m 0 #[.val (.int p0), .val (.int p1), .unset, .unset, .unset, .unset, .unset, .unset, .unset] [])) tg → Steps p.tables e below (s₁.setTop (entryFrame m #[(.int p0), (.int p1)] maxLocals)) tg := fun tg kg => castTop (ef_law m p0 p1) kg
  by_cases h1 : p1 < p0
  · obtain ⟨_, _, ⟨Tr1, Lr1, kr1, nr1⟩, -, Xr1, ⟨Lcr1, hQr1, lr1, yr1, zr1⟩, str1⟩ := Jvm.LawKit.callS X0 hx (y := (⟨"com/example/baize/baize/rules/BaccaratCoup$Result", "of", "(II)Lcom/example/baize/baize/rules/BaccaratCoup$Result;"⟩ : MethodName)) hown (mvT hZ (hw _ (List.mem_of_getElem? (i := 0) rfl))) (mvT hZ (hw _ (List.mem_of_getElem? (i := 1) rfl))) (mvT hZ (hw _ (List.mem_of_getElem? (i := 2) rfl))) (mvT hZ (hw _ (List.mem_of_getElem? (i := 3) rfl))) (by decide) (backOf (W := 0) (rm_of l Z a0 hw [] p0 p1 wP wB wT h0 n0 Z0 S_P S_B S_T) hZ (hw _ (List.mem_of_getElem? (i := 3) rfl)) (hw _ (List.mem_of_getElem? (i := 2) rfl)) (by decide) (by decide)) (g := (mkF m 2 #[.val (.int p0), .val (.int p1), .unset, .unset, .unset, .unset, .unset, .unset, .unset] [(.int p1), (.int p0)])) rfl (by rw [hml]; rfl) (argsL := [(.int p0), (.int p1)]) (rest := []) (lenOf pd_law_0 rfl) rfl (by show 2 * 0 + _ ≤ _; exact Nat.le_of_eq rfl) (hb hby at_2) (fun _ _ => ⟨rfl, e0, (by decide : 0 + 0 ≤ _), (by decide : 0 + 0 ≤ _)⟩)
    dsimp only [Pt.U, Pt.locs, Pt.cells, Pt.slots] at Xr1 lr1 yr1 zr1 str1 hQr1
    subst lr1 yr1 zr1
    obtain ⟨rfl, Nr1q, er1⟩ := hQr1
    have Nr1 := Fr.app N0 Nr1q
    obtain ⟨_, _, ⟨Tr2, Lr2, kr2, nr2⟩, -, Xr2, ⟨Lcr2, hQr2, lr2, yr2, zr2⟩, str2⟩ := Jvm.LawKit.callS Xr1 hx (y := (⟨"com/example/baize/baize/rules/BaccaratCoup$Result", "of", "(II)Lcom/example/baize/baize/rules/BaccaratCoup$Result;"⟩ : MethodName)) hown (mvT hZ (hw _ (List.mem_of_getElem? (i := 0) rfl))) (mvT hZ (hw _ (List.mem_of_getElem? (i := 1) rfl))) (mvT hZ (hw _ (List.mem_of_getElem? (i := 2) rfl))) (mvT hZ (hw _ (List.mem_of_getElem? (i := 3) rfl))) (by decide) (backOf (W := 0) (rm_of l Z a0 hw [] p1 p0 wP wB wT h0 n0 Z0 S_P S_B S_T) hZ (hw _ (List.mem_of_getElem? (i := 3) rfl)) (hw _ (List.mem_of_getElem? (i := 2) rfl)) (by decide) (by decide)) (g := (mkF m 8 #[.val (.int p0), .val (.int p1), .val (.ref (f_of p0 p1 wP wB wT)), .unset, .unset, .unset, .unset, .unset, .unset] [(.int p0), (.int p1)])) rfl (by rw [hml]; rfl) (argsL := [(.int p1), (.int p0)]) (rest := []) (lenOf pd_law_0 rfl) rfl (by show 2 * 0 + _ ≤ _; exact Nat.le_of_eq rfl) (hb hby at_8) (fun _ _ => ⟨rfl, er1, (by decide : 0 + 0 ≤ _), (by decide : 0 + 0 ≤ _)⟩)
    dsimp only [Pt.U, Pt.locs, Pt.cells, Pt.slots] at Xr2 lr2 yr2 zr2 str2 hQr2
    subst lr2 yr2 zr2
    obtain ⟨rfl, Nr2q, er2⟩ := hQr2
    have Nr2 := Fr.app Nr1 Nr2q
    obtain ⟨_, _, ⟨Tr3, Lr3, kr3, nr3⟩, -, Xr3, ⟨Lcr3, hQr3, lr3, yr3, zr3⟩, str3⟩ := Jvm.LawKit.callS Xr2 hx (y := (⟨"com/example/baize/baize/rules/BaccaratCoup$Result", "of", "(II)Lcom/example/baize/baize/rules/BaccaratCoup$Result;"⟩ : MethodName)) hown (mvT hZ (hw _ (List.mem_of_getElem? (i := 0) rfl))) (mvT hZ (hw _ (List.mem_of_getElem? (i := 1) rfl))) (mvT hZ (hw _ (List.mem_of_getElem? (i := 2) rfl))) (mvT hZ (hw _ (List.mem_of_getElem? (i := 3) rfl))) (by decide) (backOf (W := 0) (rm_of l Z a0 hw [] p0 p0 wP wB wT h0 n0 Z0 S_P S_B S_T) hZ (hw _ (List.mem_of_getElem? (i := 3) rfl)) (hw _ (List.mem_of_getElem? (i := 2) rfl)) (by decide) (by decide)) (g := (mkF m 14 #[.val (.int p0), .val (.int p1), .val (.ref (f_of p0 p1 wP wB wT)), .val (.ref (f_of p1 p0 wP wB wT)), .unset, .unset, .unset, .unset, .unset] [(.int p0), (.int p0)])) rfl (by rw [hml]; rfl) (argsL := [(.int p0), (.int p0)]) (rest := []) (lenOf pd_law_0 rfl) rfl (by show 2 * 0 + _ ≤ _; exact Nat.le_of_eq rfl) (hb hby at_14) (fun _ _ => ⟨rfl, er2, (by decide : 0 + 0 ≤ _), (by decide : 0 + 0 ≤ _)⟩)
    dsimp only [Pt.U, Pt.locs, Pt.cells, Pt.slots] at Xr3 lr3 yr3 zr3 str3 hQr3
    subst lr3 yr3 zr3
    obtain ⟨rfl, Nr3q, er3⟩ := hQr3
    have Nr3 := Fr.app Nr2 Nr3q
    obtain ⟨Tr4, Xr4, er4, str4⟩ := getS2 Xr3 hx hZ hown (host := "") (Or.inl (hw _ (List.mem_of_getElem? (i := 11) rfl))) Via.refl er3 S_P (g := (mkF m 33 #[.val (.int p0), .val (.int p1), .val (.ref (f_of p0 p1 wP wB wT)), .val (.ref (f_of p1 p0 wP wB wT)), .val (.ref (f_of p0 p0 wP wB wT)), .val (.long ((p0.toInt64) - (p1.toInt64))), .second, .unset, .unset] [])) rfl (hb hby at_33)
    obtain ⟨Tr5, Xr5, er5, str5⟩ := getS2 Xr4 hx hZ hown (host := "") (Or.inl (hw _ (List.mem_of_getElem? (i := 10) rfl))) Via.refl er4 S_B (g := (mkF m 38 #[.val (.int p0), .val (.int p1), .val (.ref (f_of p0 p1 wP wB wT)), .val (.ref (f_of p1 p0 wP wB wT)), .val (.ref (f_of p0 p0 wP wB wT)), .val (.long ((p0.toInt64) - (p1.toInt64))), .second, .val (.ref wP), .unset] [])) rfl (hb hby at_38)
    obtain ⟨Tr6, Xr6, er6, str6⟩ := getS2 Xr5 hx hZ hown (host := "") (Or.inl (hw _ (List.mem_of_getElem? (i := 12) rfl))) Via.refl er5 S_T (g := (mkF m 90 #[.val (.int p0), .val (.int p1), .val (.ref (f_of p0 p1 wP wB wT)), .val (.ref (f_of p1 p0 wP wB wT)), .val (.ref (f_of p0 p0 wP wB wT)), .val (.long ((p0.toInt64) - (p1.toInt64))), .second, .val (.ref wP), .val (.ref wB)] [(.ref (f_of p0 p0 wP wB wT))])) rfl (hb hby at_90)
    obtain ⟨fs, hr, hrun, hended, hW, hsame⟩ := Xr6.leave (v := some (.int (1 : Int32))) (fun h => by rw [Bd.returns] at h; cases h)
    refine ⟨_, _, pre0 _ ?_, hrun, hended, _, _, rfl, ?_, ⟨_, rfl⟩, hW, hsame.mono (by decide) (by decide)⟩
    · show Steps p.tables e below (s₁.setTop (mkF m 0 #[.val (.int p0), .val (.int p1), .unset, .unset, .unset, .unset, .unset, .unset, .unset] [])) _
      refine XS.iloadN X0.here hx rfl (hb hby at_0) rfl ?_
      show Steps p.tables e below (s₁.setTop (mkF m 1 #[.val (.int p0), .val (.int p1), .unset, .unset, .unset, .unset, .unset, .unset, .unset] [(.int p0)])) _
      refine XS.iloadN X0.here hx rfl (hb hby at_1) rfl ?_
      show Steps p.tables e below (s₁.setTop (mkF m 2 #[.val (.int p0), .val (.int p1), .unset, .unset, .unset, .unset, .unset, .unset, .unset] [(.int p1), (.int p0)])) _
      refine str1 _ ?_
      show Steps p.tables e below (Tr1.setTop (mkF m 5 #[.val (.int p0), .val (.int p1), .unset, .unset, .unset, .unset, .unset, .unset, .unset] [(.ref (f_of p0 p1 wP wB wT))])) _
      refine XS.astoreN Xr1.here hx rfl (hb hby at_5) rfl rfl (l' := #[.val (.int p0), .val (.int p1), .val (.ref (f_of p0 p1 wP wB wT)), .unset, .unset, .unset, .unset, .unset, .unset]) rfl ?_
      show Steps p.tables e below (Tr1.setTop (mkF m 6 #[.val (.int p0), .val (.int p1), .val (.ref (f_of p0 p1 wP wB wT)), .unset, .unset, .unset, .unset, .unset, .unset] [])) _
      refine XS.iloadN Xr1.here hx rfl (hb hby at_6) rfl ?_
      show Steps p.tables e below (Tr1.setTop (mkF m 7 #[.val (.int p0), .val (.int p1), .val (.ref (f_of p0 p1 wP wB wT)), .unset, .unset, .unset, .unset, .unset, .unset] [(.int p1)])) _
      refine XS.iloadN Xr1.here hx rfl (hb hby at_7) rfl ?_
      show Steps p.tables e below (Tr1.setTop (mkF m 8 #[.val (.int p0), .val (.int p1), .val (.ref (f_of p0 p1 wP wB wT)), .unset, .unset, .unset, .unset, .unset, .unset] [(.int p0), (.int p1)])) _
      refine str2 _ ?_
      show Steps p.tables e below (Tr2.setTop (mkF m 11 #[.val (.int p0), .val (.int p1), .val (.ref (f_of p0 p1 wP wB wT)), .unset, .unset, .unset, .unset, .unset, .unset] [(.ref (f_of p1 p0 wP wB wT))])) _
      refine XS.astoreN Xr2.here hx rfl (hb hby at_11) rfl rfl (l' := #[.val (.int p0), .val (.int p1), .val (.ref (f_of p0 p1 wP wB wT)), .val (.ref (f_of p1 p0 wP wB wT)), .unset, .unset, .unset, .unset, .unset]) rfl ?_
      show Steps p.tables e below (Tr2.setTop (mkF m 12 #[.val (.int p0), .val (.int p1), .val (.ref (f_of p0 p1 wP wB wT)), .val (.ref (f_of p1 p0 wP wB wT)), .unset, .unset, .unset, .unset, .unset] [])) _
      refine XS.iloadN Xr2.here hx rfl (hb hby at_12) rfl ?_
      show Steps p.tables e below (Tr2.setTop (mkF m 13 #[.val (.int p0), .val (.int p1), .val (.ref (f_of p0 p1 wP wB wT)), .val (.ref (f_of p1 p0 wP wB wT)), .unset, .unset, .unset, .unset, .unset] [(.int p0)])) _
      refine XS.iloadN Xr2.here hx rfl (hb hby at_13) rfl ?_
      show Steps p.tables e below (Tr2.setTop (mkF m 14 #[.val (.int p0), .val (.int p1), .val (.ref (f_of p0 p1 wP wB wT)), .val (.ref (f_of p1 p0 wP wB wT)), .unset, .unset, .unset, .unset, .unset] [(.int p0), (.int p0)])) _
      refine str3 _ ?_
      show Steps p.tables e below (Tr3.setTop (mkF m 17 #[.val (.int p0), .val (.int p1), .val (.ref (f_of p0 p1 wP wB wT)), .val (.ref (f_of p1 p0 wP wB wT)), .unset, .unset, .unset, .unset, .unset] [(.ref (f_of p0 p0 wP wB wT))])) _
      refine XS.astore Xr3.here hx rfl (hb hby at_17) rfl rfl (l' := #[.val (.int p0), .val (.int p1), .val (.ref (f_of p0 p1 wP wB wT)), .val (.ref (f_of p1 p0 wP wB wT)), .val (.ref (f_of p0 p0 wP wB wT)), .unset, .unset, .unset, .unset]) rfl ?_
      show Steps p.tables e below (Tr3.setTop (mkF m 19 #[.val (.int p0), .val (.int p1), .val (.ref (f_of p0 p1 wP wB wT)), .val (.ref (f_of p1 p0 wP wB wT)), .val (.ref (f_of p0 p0 wP wB wT)), .unset, .unset, .unset, .unset] [])) _
      refine XS.iloadN Xr3.here hx rfl (hb hby at_19) rfl ?_
      show Steps p.tables e below (Tr3.setTop (mkF m 20 #[.val (.int p0), .val (.int p1), .val (.ref (f_of p0 p1 wP wB wT)), .val (.ref (f_of p1 p0 wP wB wT)), .val (.ref (f_of p0 p0 wP wB wT)), .unset, .unset, .unset, .unset] [(.int p0)])) _
      refine XS.i2l Xr3.here hx rfl (hb hby at_20) rfl ?_
      show Steps p.tables e below (Tr3.setTop (mkF m 21 #[.val (.int p0), .val (.int p1), .val (.ref (f_of p0 p1 wP wB wT)), .val (.ref (f_of p1 p0 wP wB wT)), .val (.ref (f_of p0 p0 wP wB wT)), .unset, .unset, .unset, .unset] [(.long (p0.toInt64))])) _
      refine XS.iloadN Xr3.here hx rfl (hb hby at_21) rfl ?_
      show Steps p.tables e below (Tr3.setTop (mkF m 22 #[.val (.int p0), .val (.int p1), .val (.ref (f_of p0 p1 wP wB wT)), .val (.ref (f_of p1 p0 wP wB wT)), .val (.ref (f_of p0 p0 wP wB wT)), .unset, .unset, .unset, .unset] [(.int p1), (.long (p0.toInt64))])) _
      refine XS.i2l Xr3.here hx rfl (hb hby at_22) rfl ?_
      show Steps p.tables e below (Tr3.setTop (mkF m 23 #[.val (.int p0), .val (.int p1), .val (.ref (f_of p0 p1 wP wB wT)), .val (.ref (f_of p1 p0 wP wB wT)), .val (.ref (f_of p0 p0 wP wB wT)), .unset, .unset, .unset, .unset] [(.long (p1.toInt64)), (.long (p0.toInt64))])) _
      refine XS.lsub Xr3.here hx rfl (hb hby at_23) rfl ?_
      show Steps p.tables e below (Tr3.setTop (mkF m 24 #[.val (.int p0), .val (.int p1), .val (.ref (f_of p0 p1 wP wB wT)), .val (.ref (f_of p1 p0 wP wB wT)), .val (.ref (f_of p0 p0 wP wB wT)), .unset, .unset, .unset, .unset] [(.long ((p0.toInt64) - (p1.toInt64)))])) _
      refine XS.lstore Xr3.here hx rfl (hb hby at_24) rfl (l' := #[.val (.int p0), .val (.int p1), .val (.ref (f_of p0 p1 wP wB wT)), .val (.ref (f_of p1 p0 wP wB wT)), .val (.ref (f_of p0 p0 wP wB wT)), .val (.long ((p0.toInt64) - (p1.toInt64))), .second, .unset, .unset]) rfl ?_
      show Steps p.tables e below (Tr3.setTop (mkF m 26 #[.val (.int p0), .val (.int p1), .val (.ref (f_of p0 p1 wP wB wT)), .val (.ref (f_of p1 p0 wP wB wT)), .val (.ref (f_of p0 p0 wP wB wT)), .val (.long ((p0.toInt64) - (p1.toInt64))), .second, .unset, .unset] [])) _
      refine XS.lload Xr3.here hx rfl (hb hby at_26) rfl ?_
      show Steps p.tables e below (Tr3.setTop (mkF m 28 #[.val (.int p0), .val (.int p1), .val (.ref (f_of p0 p1 wP wB wT)), .val (.ref (f_of p1 p0 wP wB wT)), .val (.ref (f_of p0 p0 wP wB wT)), .val (.long ((p0.toInt64) - (p1.toInt64))), .second, .unset, .unset] [(.long ((p0.toInt64) - (p1.toInt64)))])) _
      refine XS.lconst Xr3.here hx rfl (hb hby at_28) ?_
      show Steps p.tables e below (Tr3.setTop (mkF m 29 #[.val (.int p0), .val (.int p1), .val (.ref (f_of p0 p1 wP wB wT)), .val (.ref (f_of p1 p0 wP wB wT)), .val (.ref (f_of p0 p0 wP wB wT)), .val (.long ((p0.toInt64) - (p1.toInt64))), .second, .unset, .unset] [(.long (0 : Int64)), (.long ((p0.toInt64) - (p1.toInt64)))])) _
      refine XS.lcmp Xr3.here hx rfl (hb hby at_29) rfl ?_
      show Steps p.tables e below (Tr3.setTop (mkF m 30 #[.val (.int p0), .val (.int p1), .val (.ref (f_of p0 p1 wP wB wT)), .val (.ref (f_of p1 p0 wP wB wT)), .val (.ref (f_of p0 p0 wP wB wT)), .val (.long ((p0.toInt64) - (p1.toInt64))), .second, .unset, .unset] [(.int (lcmpW ((p0.toInt64) - (p1.toInt64)) (0 : Int64)))])) _
      refine XS.ifNo Xr3.here hx rfl (hb hby at_30) rfl ((if0 _ _).trans (tlt ((own_gt p0 p1).mpr h1)).2.2.2) ?_
      show Steps p.tables e below (Tr3.setTop (mkF m 33 #[.val (.int p0), .val (.int p1), .val (.ref (f_of p0 p1 wP wB wT)), .val (.ref (f_of p1 p0 wP wB wT)), .val (.ref (f_of p0 p0 wP wB wT)), .val (.long ((p0.toInt64) - (p1.toInt64))), .second, .unset, .unset] [])) _
      refine str4 _ ?_
      show Steps p.tables e below (Tr4.setTop (mkF m 36 #[.val (.int p0), .val (.int p1), .val (.ref (f_of p0 p1 wP wB wT)), .val (.ref (f_of p1 p0 wP wB wT)), .val (.ref (f_of p0 p0 wP wB wT)), .val (.long ((p0.toInt64) - (p1.toInt64))), .second, .unset, .unset] [(.ref wP)])) _
      refine XS.astore Xr4.here hx rfl (hb hby at_36) rfl rfl (l' := #[.val (.int p0), .val (.int p1), .val (.ref (f_of p0 p1 wP wB wT)), .val (.ref (f_of p1 p0 wP wB wT)), .val (.ref (f_of p0 p0 wP wB wT)), .val (.long ((p0.toInt64) - (p1.toInt64))), .second, .val (.ref wP), .unset]) rfl ?_
      show Steps p.tables e below (Tr4.setTop (mkF m 38 #[.val (.int p0), .val (.int p1), .val (.ref (f_of p0 p1 wP wB wT)), .val (.ref (f_of p1 p0 wP wB wT)), .val (.ref (f_of p0 p0 wP wB wT)), .val (.long ((p0.toInt64) - (p1.toInt64))), .second, .val (.ref wP), .unset] [])) _
      refine str5 _ ?_
      show Steps p.tables e below (Tr5.setTop (mkF m 41 #[.val (.int p0), .val (.int p1), .val (.ref (f_of p0 p1 wP wB wT)), .val (.ref (f_of p1 p0 wP wB wT)), .val (.ref (f_of p0 p0 wP wB wT)), .val (.long ((p0.toInt64) - (p1.toInt64))), .second, .val (.ref wP), .unset] [(.ref wB)])) _
      refine XS.astore Xr5.here hx rfl (hb hby at_41) rfl rfl (l' := #[.val (.int p0), .val (.int p1), .val (.ref (f_of p0 p1 wP wB wT)), .val (.ref (f_of p1 p0 wP wB wT)), .val (.ref (f_of p0 p0 wP wB wT)), .val (.long ((p0.toInt64) - (p1.toInt64))), .second, .val (.ref wP), .val (.ref wB)]) rfl ?_
      show Steps p.tables e below (Tr5.setTop (mkF m 43 #[.val (.int p0), .val (.int p1), .val (.ref (f_of p0 p1 wP wB wT)), .val (.ref (f_of p1 p0 wP wB wT)), .val (.ref (f_of p0 p0 wP wB wT)), .val (.long ((p0.toInt64) - (p1.toInt64))), .second, .val (.ref wP), .val (.ref wB)] [])) _
      refine XS.goto Xr5.here hx rfl (pc0 := 43) (pc' := 76) rfl (hb hby at_43) (by decide) (by decide) ?_
      show Steps p.tables e below (Tr5.setTop (mkF m 76 #[.val (.int p0), .val (.int p1), .val (.ref (f_of p0 p1 wP wB wT)), .val (.ref (f_of p1 p0 wP wB wT)), .val (.ref (f_of p0 p0 wP wB wT)), .val (.long ((p0.toInt64) - (p1.toInt64))), .second, .val (.ref wP), .val (.ref wB)] [])) _
      refine XS.aloadN Xr5.here hx rfl (hb hby at_76) rfl rfl ?_
      show Steps p.tables e below (Tr5.setTop (mkF m 77 #[.val (.int p0), .val (.int p1), .val (.ref (f_of p0 p1 wP wB wT)), .val (.ref (f_of p1 p0 wP wB wT)), .val (.ref (f_of p0 p0 wP wB wT)), .val (.long ((p0.toInt64) - (p1.toInt64))), .second, .val (.ref wP), .val (.ref wB)] [(.ref (f_of p0 p1 wP wB wT))])) _
      refine XS.aload Xr5.here hx rfl (hb hby at_77) rfl rfl ?_
      show Steps p.tables e below (Tr5.setTop (mkF m 79 #[.val (.int p0), .val (.int p1), .val (.ref (f_of p0 p1 wP wB wT)), .val (.ref (f_of p1 p0 wP wB wT)), .val (.ref (f_of p0 p0 wP wB wT)), .val (.long ((p0.toInt64) - (p1.toInt64))), .second, .val (.ref wP), .val (.ref wB)] [(.ref wP), (.ref (f_of p0 p1 wP wB wT))])) _
      refine Jvm.RoadKit.acmp (g := (mkF m 79 #[.val (.int p0), .val (.int p1), .val (.ref (f_of p0 p1 wP wB wT)), .val (.ref (f_of p1 p0 wP wB wT)), .val (.ref (f_of p0 p0 wP wB wT)), .val (.long ((p0.toInt64) - (p1.toInt64))), .second, .val (.ref wP), .val (.ref wB)] [(.ref wP), (.ref (f_of p0 p1 wP wB wT))])) Xr5 hx rfl rfl rfl (pc0 := 79) (pc' := 82) (same := true) rfl (hb hby at_79) rfl (decide_eq_true (congrArg Value.ref (f_gt wP wB wT h1))) (by decide) (by decide) ?_
      show Steps p.tables e below (Tr5.setTop (mkF m 82 #[.val (.int p0), .val (.int p1), .val (.ref (f_of p0 p1 wP wB wT)), .val (.ref (f_of p1 p0 wP wB wT)), .val (.ref (f_of p0 p0 wP wB wT)), .val (.long ((p0.toInt64) - (p1.toInt64))), .second, .val (.ref wP), .val (.ref wB)] [])) _
      refine XS.aloadN Xr5.here hx rfl (hb hby at_82) rfl rfl ?_
      show Steps p.tables e below (Tr5.setTop (mkF m 83 #[.val (.int p0), .val (.int p1), .val (.ref (f_of p0 p1 wP wB wT)), .val (.ref (f_of p1 p0 wP wB wT)), .val (.ref (f_of p0 p0 wP wB wT)), .val (.long ((p0.toInt64) - (p1.toInt64))), .second, .val (.ref wP), .val (.ref wB)] [(.ref (f_of p1 p0 wP wB wT))])) _
      refine XS.aload Xr5.here hx rfl (hb hby at_83) rfl rfl ?_
      show Steps p.tables e below (Tr5.setTop (mkF m 85 #[.val (.int p0), .val (.int p1), .val (.ref (f_of p0 p1 wP wB wT)), .val (.ref (f_of p1 p0 wP wB wT)), .val (.ref (f_of p0 p0 wP wB wT)), .val (.long ((p0.toInt64) - (p1.toInt64))), .second, .val (.ref wP), .val (.ref wB)] [(.ref wB), (.ref (f_of p1 p0 wP wB wT))])) _
      refine Jvm.RoadKit.acmp (g := (mkF m 85 #[.val (.int p0), .val (.int p1), .val (.ref (f_of p0 p1 wP wB wT)), .val (.ref (f_of p1 p0 wP wB wT)), .val (.ref (f_of p0 p0 wP wB wT)), .val (.long ((p0.toInt64) - (p1.toInt64))), .second, .val (.ref wP), .val (.ref wB)] [(.ref wB), (.ref (f_of p1 p0 wP wB wT))])) Xr5 hx rfl rfl rfl (pc0 := 85) (pc' := 88) (same := true) rfl (hb hby at_85) rfl (decide_eq_true (congrArg Value.ref (f_lt wP wB wT h1))) (by decide) (by decide) ?_
      show Steps p.tables e below (Tr5.setTop (mkF m 88 #[.val (.int p0), .val (.int p1), .val (.ref (f_of p0 p1 wP wB wT)), .val (.ref (f_of p1 p0 wP wB wT)), .val (.ref (f_of p0 p0 wP wB wT)), .val (.long ((p0.toInt64) - (p1.toInt64))), .second, .val (.ref wP), .val (.ref wB)] [])) _
      refine XS.aload Xr5.here hx rfl (hb hby at_88) rfl rfl ?_
      show Steps p.tables e below (Tr5.setTop (mkF m 90 #[.val (.int p0), .val (.int p1), .val (.ref (f_of p0 p1 wP wB wT)), .val (.ref (f_of p1 p0 wP wB wT)), .val (.ref (f_of p0 p0 wP wB wT)), .val (.long ((p0.toInt64) - (p1.toInt64))), .second, .val (.ref wP), .val (.ref wB)] [(.ref (f_of p0 p0 wP wB wT))])) _
      refine str6 _ ?_
      show Steps p.tables e below (Tr6.setTop (mkF m 93 #[.val (.int p0), .val (.int p1), .val (.ref (f_of p0 p1 wP wB wT)), .val (.ref (f_of p1 p0 wP wB wT)), .val (.ref (f_of p0 p0 wP wB wT)), .val (.long ((p0.toInt64) - (p1.toInt64))), .second, .val (.ref wP), .val (.ref wB)] [(.ref wT), (.ref (f_of p0 p0 wP wB wT))])) _
      refine Jvm.RoadKit.acmp (g := (mkF m 93 #[.val (.int p0), .val (.int p1), .val (.ref (f_of p0 p1 wP wB wT)), .val (.ref (f_of p1 p0 wP wB wT)), .val (.ref (f_of p0 p0 wP wB wT)), .val (.long ((p0.toInt64) - (p1.toInt64))), .second, .val (.ref wP), .val (.ref wB)] [(.ref wT), (.ref (f_of p0 p0 wP wB wT))])) Xr6 hx rfl rfl rfl (pc0 := 93) (pc' := 96) (same := true) rfl (hb hby at_93) rfl (decide_eq_true (congrArg Value.ref (f_eq wP wB wT Int32.lt_irrefl Int32.lt_irrefl))) (by decide) (by decide) ?_
      show Steps p.tables e below (Tr6.setTop (mkF m 96 #[.val (.int p0), .val (.int p1), .val (.ref (f_of p0 p1 wP wB wT)), .val (.ref (f_of p1 p0 wP wB wT)), .val (.ref (f_of p0 p0 wP wB wT)), .val (.long ((p0.toInt64) - (p1.toInt64))), .second, .val (.ref wP), .val (.ref wB)] [])) _
      refine XS.iconst Xr6.here hx rfl (hb hby at_96) ?_
      show Steps p.tables e below (Tr6.setTop (mkF m 97 #[.val (.int p0), .val (.int p1), .val (.ref (f_of p0 p1 wP wB wT)), .val (.ref (f_of p1 p0 wP wB wT)), .val (.ref (f_of p0 p0 wP wB wT)), .val (.long ((p0.toInt64) - (p1.toInt64))), .second, .val (.ref wP), .val (.ref wB)] [(.int (1 : Int32))])) _
      refine XS.goto Xr6.here hx rfl (pc0 := 97) (pc' := 101) rfl (hb hby at_97) (by decide) (by decide) ?_
      show Steps p.tables e below (Tr6.setTop (mkF m 101 #[.val (.int p0), .val (.int p1), .val (.ref (f_of p0 p1 wP wB wT)), .val (.ref (f_of p1 p0 wP wB wT)), .val (.ref (f_of p0 p0 wP wB wT)), .val (.long ((p0.toInt64) - (p1.toInt64))), .second, .val (.ref wP), .val (.ref wB)] [(.int (1 : Int32))])) _
      exact retN Xr6 hx (t := .boolean) Bd.returns (by simp) (hb hby at_101) hr
    · show Q_law Z p0 p1 h0 n0 _ Tr6.heap _
      rw [er6]
      exact ⟨rfl, Nr3⟩
  · by_cases h2 : p0 < p1
    · obtain ⟨_, _, ⟨Tr1, Lr1, kr1, nr1⟩, -, Xr1, ⟨Lcr1, hQr1, lr1, yr1, zr1⟩, str1⟩ := Jvm.LawKit.callS X0 hx (y := (⟨"com/example/baize/baize/rules/BaccaratCoup$Result", "of", "(II)Lcom/example/baize/baize/rules/BaccaratCoup$Result;"⟩ : MethodName)) hown (mvT hZ (hw _ (List.mem_of_getElem? (i := 0) rfl))) (mvT hZ (hw _ (List.mem_of_getElem? (i := 1) rfl))) (mvT hZ (hw _ (List.mem_of_getElem? (i := 2) rfl))) (mvT hZ (hw _ (List.mem_of_getElem? (i := 3) rfl))) (by decide) (backOf (W := 0) (rm_of l Z a0 hw [] p0 p1 wP wB wT h0 n0 Z0 S_P S_B S_T) hZ (hw _ (List.mem_of_getElem? (i := 3) rfl)) (hw _ (List.mem_of_getElem? (i := 2) rfl)) (by decide) (by decide)) (g := (mkF m 2 #[.val (.int p0), .val (.int p1), .unset, .unset, .unset, .unset, .unset, .unset, .unset] [(.int p1), (.int p0)])) rfl (by rw [hml]; rfl) (argsL := [(.int p0), (.int p1)]) (rest := []) (lenOf pd_law_0 rfl) rfl (by show 2 * 0 + _ ≤ _; exact Nat.le_of_eq rfl) (hb hby at_2) (fun _ _ => ⟨rfl, e0, (by decide : 0 + 0 ≤ _), (by decide : 0 + 0 ≤ _)⟩)
      dsimp only [Pt.U, Pt.locs, Pt.cells, Pt.slots] at Xr1 lr1 yr1 zr1 str1 hQr1
      subst lr1 yr1 zr1
      obtain ⟨rfl, Nr1q, er1⟩ := hQr1
      have Nr1 := Fr.app N0 Nr1q
      obtain ⟨_, _, ⟨Tr2, Lr2, kr2, nr2⟩, -, Xr2, ⟨Lcr2, hQr2, lr2, yr2, zr2⟩, str2⟩ := Jvm.LawKit.callS Xr1 hx (y := (⟨"com/example/baize/baize/rules/BaccaratCoup$Result", "of", "(II)Lcom/example/baize/baize/rules/BaccaratCoup$Result;"⟩ : MethodName)) hown (mvT hZ (hw _ (List.mem_of_getElem? (i := 0) rfl))) (mvT hZ (hw _ (List.mem_of_getElem? (i := 1) rfl))) (mvT hZ (hw _ (List.mem_of_getElem? (i := 2) rfl))) (mvT hZ (hw _ (List.mem_of_getElem? (i := 3) rfl))) (by decide) (backOf (W := 0) (rm_of l Z a0 hw [] p1 p0 wP wB wT h0 n0 Z0 S_P S_B S_T) hZ (hw _ (List.mem_of_getElem? (i := 3) rfl)) (hw _ (List.mem_of_getElem? (i := 2) rfl)) (by decide) (by decide)) (g := (mkF m 8 #[.val (.int p0), .val (.int p1), .val (.ref (f_of p0 p1 wP wB wT)), .unset, .unset, .unset, .unset, .unset, .unset] [(.int p0), (.int p1)])) rfl (by rw [hml]; rfl) (argsL := [(.int p1), (.int p0)]) (rest := []) (lenOf pd_law_0 rfl) rfl (by show 2 * 0 + _ ≤ _; exact Nat.le_of_eq rfl) (hb hby at_8) (fun _ _ => ⟨rfl, er1, (by decide : 0 + 0 ≤ _), (by decide : 0 + 0 ≤ _)⟩)
      dsimp only [Pt.U, Pt.locs, Pt.cells, Pt.slots] at Xr2 lr2 yr2 zr2 str2 hQr2
      subst lr2 yr2 zr2
      obtain ⟨rfl, Nr2q, er2⟩ := hQr2
      have Nr2 := Fr.app Nr1 Nr2q
      obtain ⟨_, _, ⟨Tr3, Lr3, kr3, nr3⟩, -, Xr3, ⟨Lcr3, hQr3, lr3, yr3, zr3⟩, str3⟩ := Jvm.LawKit.callS Xr2 hx (y := (⟨"com/example/baize/baize/rules/BaccaratCoup$Result", "of", "(II)Lcom/example/baize/baize/rules/BaccaratCoup$Result;"⟩ : MethodName)) hown (mvT hZ (hw _ (List.mem_of_getElem? (i := 0) rfl))) (mvT hZ (hw _ (List.mem_of_getElem? (i := 1) rfl))) (mvT hZ (hw _ (List.mem_of_getElem? (i := 2) rfl))) (mvT hZ (hw _ (List.mem_of_getElem? (i := 3) rfl))) (by decide) (backOf (W := 0) (rm_of l Z a0 hw [] p0 p0 wP wB wT h0 n0 Z0 S_P S_B S_T) hZ (hw _ (List.mem_of_getElem? (i := 3) rfl)) (hw _ (List.mem_of_getElem? (i := 2) rfl)) (by decide) (by decide)) (g := (mkF m 14 #[.val (.int p0), .val (.int p1), .val (.ref (f_of p0 p1 wP wB wT)), .val (.ref (f_of p1 p0 wP wB wT)), .unset, .unset, .unset, .unset, .unset] [(.int p0), (.int p0)])) rfl (by rw [hml]; rfl) (argsL := [(.int p0), (.int p0)]) (rest := []) (lenOf pd_law_0 rfl) rfl (by show 2 * 0 + _ ≤ _; exact Nat.le_of_eq rfl) (hb hby at_14) (fun _ _ => ⟨rfl, er2, (by decide : 0 + 0 ≤ _), (by decide : 0 + 0 ≤ _)⟩)
      dsimp only [Pt.U, Pt.locs, Pt.cells, Pt.slots] at Xr3 lr3 yr3 zr3 str3 hQr3
      subst lr3 yr3 zr3
      obtain ⟨rfl, Nr3q, er3⟩ := hQr3
      have Nr3 := Fr.app Nr2 Nr3q
      obtain ⟨Tr4, Xr4, er4, str4⟩ := getS2 Xr3 hx hZ hown (host := "") (Or.inl (hw _ (List.mem_of_getElem? (i := 10) rfl))) Via.refl er3 S_B (g := (mkF m 53 #[.val (.int p0), .val (.int p1), .val (.ref (f_of p0 p1 wP wB wT)), .val (.ref (f_of p1 p0 wP wB wT)), .val (.ref (f_of p0 p0 wP wB wT)), .val (.long ((p0.toInt64) - (p1.toInt64))), .second, .unset, .unset] [])) rfl (hb hby at_53)
      obtain ⟨Tr5, Xr5, er5, str5⟩ := getS2 Xr4 hx hZ hown (host := "") (Or.inl (hw _ (List.mem_of_getElem? (i := 11) rfl))) Via.refl er4 S_P (g := (mkF m 58 #[.val (.int p0), .val (.int p1), .val (.ref (f_of p0 p1 wP wB wT)), .val (.ref (f_of p1 p0 wP wB wT)), .val (.ref (f_of p0 p0 wP wB wT)), .val (.long ((p0.toInt64) - (p1.toInt64))), .second, .val (.ref wB), .unset] [])) rfl (hb hby at_58)
      obtain ⟨Tr6, Xr6, er6, str6⟩ := getS2 Xr5 hx hZ hown (host := "") (Or.inl (hw _ (List.mem_of_getElem? (i := 12) rfl))) Via.refl er5 S_T (g := (mkF m 90 #[.val (.int p0), .val (.int p1), .val (.ref (f_of p0 p1 wP wB wT)), .val (.ref (f_of p1 p0 wP wB wT)), .val (.ref (f_of p0 p0 wP wB wT)), .val (.long ((p0.toInt64) - (p1.toInt64))), .second, .val (.ref wB), .val (.ref wP)] [(.ref (f_of p0 p0 wP wB wT))])) rfl (hb hby at_90)
      obtain ⟨fs, hr, hrun, hended, hW, hsame⟩ := Xr6.leave (v := some (.int (1 : Int32))) (fun h => by rw [Bd.returns] at h; cases h)
      refine ⟨_, _, pre0 _ ?_, hrun, hended, _, _, rfl, ?_, ⟨_, rfl⟩, hW, hsame.mono (by decide) (by decide)⟩
      · show Steps p.tables e below (s₁.setTop (mkF m 0 #[.val (.int p0), .val (.int p1), .unset, .unset, .unset, .unset, .unset, .unset, .unset] [])) _
        refine XS.iloadN X0.here hx rfl (hb hby at_0) rfl ?_
        show Steps p.tables e below (s₁.setTop (mkF m 1 #[.val (.int p0), .val (.int p1), .unset, .unset, .unset, .unset, .unset, .unset, .unset] [(.int p0)])) _
        refine XS.iloadN X0.here hx rfl (hb hby at_1) rfl ?_
        show Steps p.tables e below (s₁.setTop (mkF m 2 #[.val (.int p0), .val (.int p1), .unset, .unset, .unset, .unset, .unset, .unset, .unset] [(.int p1), (.int p0)])) _
        refine str1 _ ?_
        show Steps p.tables e below (Tr1.setTop (mkF m 5 #[.val (.int p0), .val (.int p1), .unset, .unset, .unset, .unset, .unset, .unset, .unset] [(.ref (f_of p0 p1 wP wB wT))])) _
        refine XS.astoreN Xr1.here hx rfl (hb hby at_5) rfl rfl (l' := #[.val (.int p0), .val (.int p1), .val (.ref (f_of p0 p1 wP wB wT)), .unset, .unset, .unset, .unset, .unset, .unset]) rfl ?_
        show Steps p.tables e below (Tr1.setTop (mkF m 6 #[.val (.int p0), .val (.int p1), .val (.ref (f_of p0 p1 wP wB wT)), .unset, .unset, .unset, .unset, .unset, .unset] [])) _
        refine XS.iloadN Xr1.here hx rfl (hb hby at_6) rfl ?_
        show Steps p.tables e below (Tr1.setTop (mkF m 7 #[.val (.int p0), .val (.int p1), .val (.ref (f_of p0 p1 wP wB wT)), .unset, .unset, .unset, .unset, .unset, .unset] [(.int p1)])) _
        refine XS.iloadN Xr1.here hx rfl (hb hby at_7) rfl ?_
        show Steps p.tables e below (Tr1.setTop (mkF m 8 #[.val (.int p0), .val (.int p1), .val (.ref (f_of p0 p1 wP wB wT)), .unset, .unset, .unset, .unset, .unset, .unset] [(.int p0), (.int p1)])) _
        refine str2 _ ?_
        show Steps p.tables e below (Tr2.setTop (mkF m 11 #[.val (.int p0), .val (.int p1), .val (.ref (f_of p0 p1 wP wB wT)), .unset, .unset, .unset, .unset, .unset, .unset] [(.ref (f_of p1 p0 wP wB wT))])) _
        refine XS.astoreN Xr2.here hx rfl (hb hby at_11) rfl rfl (l' := #[.val (.int p0), .val (.int p1), .val (.ref (f_of p0 p1 wP wB wT)), .val (.ref (f_of p1 p0 wP wB wT)), .unset, .unset, .unset, .unset, .unset]) rfl ?_
        show Steps p.tables e below (Tr2.setTop (mkF m 12 #[.val (.int p0), .val (.int p1), .val (.ref (f_of p0 p1 wP wB wT)), .val (.ref (f_of p1 p0 wP wB wT)), .unset, .unset, .unset, .unset, .unset] [])) _
        refine XS.iloadN Xr2.here hx rfl (hb hby at_12) rfl ?_
        show Steps p.tables e below (Tr2.setTop (mkF m 13 #[.val (.int p0), .val (.int p1), .val (.ref (f_of p0 p1 wP wB wT)), .val (.ref (f_of p1 p0 wP wB wT)), .unset, .unset, .unset, .unset, .unset] [(.int p0)])) _
        refine XS.iloadN Xr2.here hx rfl (hb hby at_13) rfl ?_
        show Steps p.tables e below (Tr2.setTop (mkF m 14 #[.val (.int p0), .val (.int p1), .val (.ref (f_of p0 p1 wP wB wT)), .val (.ref (f_of p1 p0 wP wB wT)), .unset, .unset, .unset, .unset, .unset] [(.int p0), (.int p0)])) _
        refine str3 _ ?_
        show Steps p.tables e below (Tr3.setTop (mkF m 17 #[.val (.int p0), .val (.int p1), .val (.ref (f_of p0 p1 wP wB wT)), .val (.ref (f_of p1 p0 wP wB wT)), .unset, .unset, .unset, .unset, .unset] [(.ref (f_of p0 p0 wP wB wT))])) _
        refine XS.astore Xr3.here hx rfl (hb hby at_17) rfl rfl (l' := #[.val (.int p0), .val (.int p1), .val (.ref (f_of p0 p1 wP wB wT)), .val (.ref (f_of p1 p0 wP wB wT)), .val (.ref (f_of p0 p0 wP wB wT)), .unset, .unset, .unset, .unset]) rfl ?_
        show Steps p.tables e below (Tr3.setTop (mkF m 19 #[.val (.int p0), .val (.int p1), .val (.ref (f_of p0 p1 wP wB wT)), .val (.ref (f_of p1 p0 wP wB wT)), .val (.ref (f_of p0 p0 wP wB wT)), .unset, .unset, .unset, .unset] [])) _
        refine XS.iloadN Xr3.here hx rfl (hb hby at_19) rfl ?_
        show Steps p.tables e below (Tr3.setTop (mkF m 20 #[.val (.int p0), .val (.int p1), .val (.ref (f_of p0 p1 wP wB wT)), .val (.ref (f_of p1 p0 wP wB wT)), .val (.ref (f_of p0 p0 wP wB wT)), .unset, .unset, .unset, .unset] [(.int p0)])) _
        refine XS.i2l Xr3.here hx rfl (hb hby at_20) rfl ?_
        show Steps p.tables e below (Tr3.setTop (mkF m 21 #[.val (.int p0), .val (.int p1), .val (.ref (f_of p0 p1 wP wB wT)), .val (.ref (f_of p1 p0 wP wB wT)), .val (.ref (f_of p0 p0 wP wB wT)), .unset, .unset, .unset, .unset] [(.long (p0.toInt64))])) _
        refine XS.iloadN Xr3.here hx rfl (hb hby at_21) rfl ?_
        show Steps p.tables e below (Tr3.setTop (mkF m 22 #[.val (.int p0), .val (.int p1), .val (.ref (f_of p0 p1 wP wB wT)), .val (.ref (f_of p1 p0 wP wB wT)), .val (.ref (f_of p0 p0 wP wB wT)), .unset, .unset, .unset, .unset] [(.int p1), (.long (p0.toInt64))])) _
        refine XS.i2l Xr3.here hx rfl (hb hby at_22) rfl ?_
        show Steps p.tables e below (Tr3.setTop (mkF m 23 #[.val (.int p0), .val (.int p1), .val (.ref (f_of p0 p1 wP wB wT)), .val (.ref (f_of p1 p0 wP wB wT)), .val (.ref (f_of p0 p0 wP wB wT)), .unset, .unset, .unset, .unset] [(.long (p1.toInt64)), (.long (p0.toInt64))])) _
        refine XS.lsub Xr3.here hx rfl (hb hby at_23) rfl ?_
        show Steps p.tables e below (Tr3.setTop (mkF m 24 #[.val (.int p0), .val (.int p1), .val (.ref (f_of p0 p1 wP wB wT)), .val (.ref (f_of p1 p0 wP wB wT)), .val (.ref (f_of p0 p0 wP wB wT)), .unset, .unset, .unset, .unset] [(.long ((p0.toInt64) - (p1.toInt64)))])) _
        refine XS.lstore Xr3.here hx rfl (hb hby at_24) rfl (l' := #[.val (.int p0), .val (.int p1), .val (.ref (f_of p0 p1 wP wB wT)), .val (.ref (f_of p1 p0 wP wB wT)), .val (.ref (f_of p0 p0 wP wB wT)), .val (.long ((p0.toInt64) - (p1.toInt64))), .second, .unset, .unset]) rfl ?_
        show Steps p.tables e below (Tr3.setTop (mkF m 26 #[.val (.int p0), .val (.int p1), .val (.ref (f_of p0 p1 wP wB wT)), .val (.ref (f_of p1 p0 wP wB wT)), .val (.ref (f_of p0 p0 wP wB wT)), .val (.long ((p0.toInt64) - (p1.toInt64))), .second, .unset, .unset] [])) _
        refine XS.lload Xr3.here hx rfl (hb hby at_26) rfl ?_
        show Steps p.tables e below (Tr3.setTop (mkF m 28 #[.val (.int p0), .val (.int p1), .val (.ref (f_of p0 p1 wP wB wT)), .val (.ref (f_of p1 p0 wP wB wT)), .val (.ref (f_of p0 p0 wP wB wT)), .val (.long ((p0.toInt64) - (p1.toInt64))), .second, .unset, .unset] [(.long ((p0.toInt64) - (p1.toInt64)))])) _
        refine XS.lconst Xr3.here hx rfl (hb hby at_28) ?_
        show Steps p.tables e below (Tr3.setTop (mkF m 29 #[.val (.int p0), .val (.int p1), .val (.ref (f_of p0 p1 wP wB wT)), .val (.ref (f_of p1 p0 wP wB wT)), .val (.ref (f_of p0 p0 wP wB wT)), .val (.long ((p0.toInt64) - (p1.toInt64))), .second, .unset, .unset] [(.long (0 : Int64)), (.long ((p0.toInt64) - (p1.toInt64)))])) _
        refine XS.lcmp Xr3.here hx rfl (hb hby at_29) rfl ?_
        show Steps p.tables e below (Tr3.setTop (mkF m 30 #[.val (.int p0), .val (.int p1), .val (.ref (f_of p0 p1 wP wB wT)), .val (.ref (f_of p1 p0 wP wB wT)), .val (.ref (f_of p0 p0 wP wB wT)), .val (.long ((p0.toInt64) - (p1.toInt64))), .second, .unset, .unset] [(.int (lcmpW ((p0.toInt64) - (p1.toInt64)) (0 : Int64)))])) _
        refine XS.ifYes Xr3.here hx rfl (pc0 := 30) (pc' := 46) rfl (hb hby at_30) rfl ((if0 _ _).trans (flt (fun q => h1 ((own_gt p0 p1).mp q))).2.2.2) (by decide) (by decide) ?_
        show Steps p.tables e below (Tr3.setTop (mkF m 46 #[.val (.int p0), .val (.int p1), .val (.ref (f_of p0 p1 wP wB wT)), .val (.ref (f_of p1 p0 wP wB wT)), .val (.ref (f_of p0 p0 wP wB wT)), .val (.long ((p0.toInt64) - (p1.toInt64))), .second, .unset, .unset] [])) _
        refine XS.lload Xr3.here hx rfl (hb hby at_46) rfl ?_
        show Steps p.tables e below (Tr3.setTop (mkF m 48 #[.val (.int p0), .val (.int p1), .val (.ref (f_of p0 p1 wP wB wT)), .val (.ref (f_of p1 p0 wP wB wT)), .val (.ref (f_of p0 p0 wP wB wT)), .val (.long ((p0.toInt64) - (p1.toInt64))), .second, .unset, .unset] [(.long ((p0.toInt64) - (p1.toInt64)))])) _
        refine XS.lconst Xr3.here hx rfl (hb hby at_48) ?_
        show Steps p.tables e below (Tr3.setTop (mkF m 49 #[.val (.int p0), .val (.int p1), .val (.ref (f_of p0 p1 wP wB wT)), .val (.ref (f_of p1 p0 wP wB wT)), .val (.ref (f_of p0 p0 wP wB wT)), .val (.long ((p0.toInt64) - (p1.toInt64))), .second, .unset, .unset] [(.long (0 : Int64)), (.long ((p0.toInt64) - (p1.toInt64)))])) _
        refine XS.lcmp Xr3.here hx rfl (hb hby at_49) rfl ?_
        show Steps p.tables e below (Tr3.setTop (mkF m 50 #[.val (.int p0), .val (.int p1), .val (.ref (f_of p0 p1 wP wB wT)), .val (.ref (f_of p1 p0 wP wB wT)), .val (.ref (f_of p0 p0 wP wB wT)), .val (.long ((p0.toInt64) - (p1.toInt64))), .second, .unset, .unset] [(.int (lcmpW ((p0.toInt64) - (p1.toInt64)) (0 : Int64)))])) _
        refine XS.ifNo Xr3.here hx rfl (hb hby at_50) rfl ((if0 _ _).trans (tlt ((own_lt p0 p1).mpr h2)).2.1) ?_
        show Steps p.tables e below (Tr3.setTop (mkF m 53 #[.val (.int p0), .val (.int p1), .val (.ref (f_of p0 p1 wP wB wT)), .val (.ref (f_of p1 p0 wP wB wT)), .val (.ref (f_of p0 p0 wP wB wT)), .val (.long ((p0.toInt64) - (p1.toInt64))), .second, .unset, .unset] [])) _
        refine str4 _ ?_
        show Steps p.tables e below (Tr4.setTop (mkF m 56 #[.val (.int p0), .val (.int p1), .val (.ref (f_of p0 p1 wP wB wT)), .val (.ref (f_of p1 p0 wP wB wT)), .val (.ref (f_of p0 p0 wP wB wT)), .val (.long ((p0.toInt64) - (p1.toInt64))), .second, .unset, .unset] [(.ref wB)])) _
        refine XS.astore Xr4.here hx rfl (hb hby at_56) rfl rfl (l' := #[.val (.int p0), .val (.int p1), .val (.ref (f_of p0 p1 wP wB wT)), .val (.ref (f_of p1 p0 wP wB wT)), .val (.ref (f_of p0 p0 wP wB wT)), .val (.long ((p0.toInt64) - (p1.toInt64))), .second, .val (.ref wB), .unset]) rfl ?_
        show Steps p.tables e below (Tr4.setTop (mkF m 58 #[.val (.int p0), .val (.int p1), .val (.ref (f_of p0 p1 wP wB wT)), .val (.ref (f_of p1 p0 wP wB wT)), .val (.ref (f_of p0 p0 wP wB wT)), .val (.long ((p0.toInt64) - (p1.toInt64))), .second, .val (.ref wB), .unset] [])) _
        refine str5 _ ?_
        show Steps p.tables e below (Tr5.setTop (mkF m 61 #[.val (.int p0), .val (.int p1), .val (.ref (f_of p0 p1 wP wB wT)), .val (.ref (f_of p1 p0 wP wB wT)), .val (.ref (f_of p0 p0 wP wB wT)), .val (.long ((p0.toInt64) - (p1.toInt64))), .second, .val (.ref wB), .unset] [(.ref wP)])) _
        refine XS.astore Xr5.here hx rfl (hb hby at_61) rfl rfl (l' := #[.val (.int p0), .val (.int p1), .val (.ref (f_of p0 p1 wP wB wT)), .val (.ref (f_of p1 p0 wP wB wT)), .val (.ref (f_of p0 p0 wP wB wT)), .val (.long ((p0.toInt64) - (p1.toInt64))), .second, .val (.ref wB), .val (.ref wP)]) rfl ?_
        show Steps p.tables e below (Tr5.setTop (mkF m 63 #[.val (.int p0), .val (.int p1), .val (.ref (f_of p0 p1 wP wB wT)), .val (.ref (f_of p1 p0 wP wB wT)), .val (.ref (f_of p0 p0 wP wB wT)), .val (.long ((p0.toInt64) - (p1.toInt64))), .second, .val (.ref wB), .val (.ref wP)] [])) _
        refine XS.goto Xr5.here hx rfl (pc0 := 63) (pc' := 76) rfl (hb hby at_63) (by decide) (by decide) ?_
        show Steps p.tables e below (Tr5.setTop (mkF m 76 #[.val (.int p0), .val (.int p1), .val (.ref (f_of p0 p1 wP wB wT)), .val (.ref (f_of p1 p0 wP wB wT)), .val (.ref (f_of p0 p0 wP wB wT)), .val (.long ((p0.toInt64) - (p1.toInt64))), .second, .val (.ref wB), .val (.ref wP)] [])) _
        refine XS.aloadN Xr5.here hx rfl (hb hby at_76) rfl rfl ?_
        show Steps p.tables e below (Tr5.setTop (mkF m 77 #[.val (.int p0), .val (.int p1), .val (.ref (f_of p0 p1 wP wB wT)), .val (.ref (f_of p1 p0 wP wB wT)), .val (.ref (f_of p0 p0 wP wB wT)), .val (.long ((p0.toInt64) - (p1.toInt64))), .second, .val (.ref wB), .val (.ref wP)] [(.ref (f_of p0 p1 wP wB wT))])) _
        refine XS.aload Xr5.here hx rfl (hb hby at_77) rfl rfl ?_
        show Steps p.tables e below (Tr5.setTop (mkF m 79 #[.val (.int p0), .val (.int p1), .val (.ref (f_of p0 p1 wP wB wT)), .val (.ref (f_of p1 p0 wP wB wT)), .val (.ref (f_of p0 p0 wP wB wT)), .val (.long ((p0.toInt64) - (p1.toInt64))), .second, .val (.ref wB), .val (.ref wP)] [(.ref wB), (.ref (f_of p0 p1 wP wB wT))])) _
        refine Jvm.RoadKit.acmp (g := (mkF m 79 #[.val (.int p0), .val (.int p1), .val (.ref (f_of p0 p1 wP wB wT)), .val (.ref (f_of p1 p0 wP wB wT)), .val (.ref (f_of p0 p0 wP wB wT)), .val (.long ((p0.toInt64) - (p1.toInt64))), .second, .val (.ref wB), .val (.ref wP)] [(.ref wB), (.ref (f_of p0 p1 wP wB wT))])) Xr5 hx rfl rfl rfl (pc0 := 79) (pc' := 82) (same := true) rfl (hb hby at_79) rfl (decide_eq_true (congrArg Value.ref (f_lt wP wB wT h2))) (by decide) (by decide) ?_
        show Steps p.tables e below (Tr5.setTop (mkF m 82 #[.val (.int p0), .val (.int p1), .val (.ref (f_of p0 p1 wP wB wT)), .val (.ref (f_of p1 p0 wP wB wT)), .val (.ref (f_of p0 p0 wP wB wT)), .val (.long ((p0.toInt64) - (p1.toInt64))), .second, .val (.ref wB), .val (.ref wP)] [])) _
        refine XS.aloadN Xr5.here hx rfl (hb hby at_82) rfl rfl ?_
        show Steps p.tables e below (Tr5.setTop (mkF m 83 #[.val (.int p0), .val (.int p1), .val (.ref (f_of p0 p1 wP wB wT)), .val (.ref (f_of p1 p0 wP wB wT)), .val (.ref (f_of p0 p0 wP wB wT)), .val (.long ((p0.toInt64) - (p1.toInt64))), .second, .val (.ref wB), .val (.ref wP)] [(.ref (f_of p1 p0 wP wB wT))])) _
        refine XS.aload Xr5.here hx rfl (hb hby at_83) rfl rfl ?_
        show Steps p.tables e below (Tr5.setTop (mkF m 85 #[.val (.int p0), .val (.int p1), .val (.ref (f_of p0 p1 wP wB wT)), .val (.ref (f_of p1 p0 wP wB wT)), .val (.ref (f_of p0 p0 wP wB wT)), .val (.long ((p0.toInt64) - (p1.toInt64))), .second, .val (.ref wB), .val (.ref wP)] [(.ref wP), (.ref (f_of p1 p0 wP wB wT))])) _
        refine Jvm.RoadKit.acmp (g := (mkF m 85 #[.val (.int p0), .val (.int p1), .val (.ref (f_of p0 p1 wP wB wT)), .val (.ref (f_of p1 p0 wP wB wT)), .val (.ref (f_of p0 p0 wP wB wT)), .val (.long ((p0.toInt64) - (p1.toInt64))), .second, .val (.ref wB), .val (.ref wP)] [(.ref wP), (.ref (f_of p1 p0 wP wB wT))])) Xr5 hx rfl rfl rfl (pc0 := 85) (pc' := 88) (same := true) rfl (hb hby at_85) rfl (decide_eq_true (congrArg Value.ref (f_gt wP wB wT h2))) (by decide) (by decide) ?_
        show Steps p.tables e below (Tr5.setTop (mkF m 88 #[.val (.int p0), .val (.int p1), .val (.ref (f_of p0 p1 wP wB wT)), .val (.ref (f_of p1 p0 wP wB wT)), .val (.ref (f_of p0 p0 wP wB wT)), .val (.long ((p0.toInt64) - (p1.toInt64))), .second, .val (.ref wB), .val (.ref wP)] [])) _
        refine XS.aload Xr5.here hx rfl (hb hby at_88) rfl rfl ?_
        show Steps p.tables e below (Tr5.setTop (mkF m 90 #[.val (.int p0), .val (.int p1), .val (.ref (f_of p0 p1 wP wB wT)), .val (.ref (f_of p1 p0 wP wB wT)), .val (.ref (f_of p0 p0 wP wB wT)), .val (.long ((p0.toInt64) - (p1.toInt64))), .second, .val (.ref wB), .val (.ref wP)] [(.ref (f_of p0 p0 wP wB wT))])) _
        refine str6 _ ?_
        show Steps p.tables e below (Tr6.setTop (mkF m 93 #[.val (.int p0), .val (.int p1), .val (.ref (f_of p0 p1 wP wB wT)), .val (.ref (f_of p1 p0 wP wB wT)), .val (.ref (f_of p0 p0 wP wB wT)), .val (.long ((p0.toInt64) - (p1.toInt64))), .second, .val (.ref wB), .val (.ref wP)] [(.ref wT), (.ref (f_of p0 p0 wP wB wT))])) _
        refine Jvm.RoadKit.acmp (g := (mkF m 93 #[.val (.int p0), .val (.int p1), .val (.ref (f_of p0 p1 wP wB wT)), .val (.ref (f_of p1 p0 wP wB wT)), .val (.ref (f_of p0 p0 wP wB wT)), .val (.long ((p0.toInt64) - (p1.toInt64))), .second, .val (.ref wB), .val (.ref wP)] [(.ref wT), (.ref (f_of p0 p0 wP wB wT))])) Xr6 hx rfl rfl rfl (pc0 := 93) (pc' := 96) (same := true) rfl (hb hby at_93) rfl (decide_eq_true (congrArg Value.ref (f_eq wP wB wT Int32.lt_irrefl Int32.lt_irrefl))) (by decide) (by decide) ?_
        show Steps p.tables e below (Tr6.setTop (mkF m 96 #[.val (.int p0), .val (.int p1), .val (.ref (f_of p0 p1 wP wB wT)), .val (.ref (f_of p1 p0 wP wB wT)), .val (.ref (f_of p0 p0 wP wB wT)), .val (.long ((p0.toInt64) - (p1.toInt64))), .second, .val (.ref wB), .val (.ref wP)] [])) _
        refine XS.iconst Xr6.here hx rfl (hb hby at_96) ?_
        show Steps p.tables e below (Tr6.setTop (mkF m 97 #[.val (.int p0), .val (.int p1), .val (.ref (f_of p0 p1 wP wB wT)), .val (.ref (f_of p1 p0 wP wB wT)), .val (.ref (f_of p0 p0 wP wB wT)), .val (.long ((p0.toInt64) - (p1.toInt64))), .second, .val (.ref wB), .val (.ref wP)] [(.int (1 : Int32))])) _
        refine XS.goto Xr6.here hx rfl (pc0 := 97) (pc' := 101) rfl (hb hby at_97) (by decide) (by decide) ?_
        show Steps p.tables e below (Tr6.setTop (mkF m 101 #[.val (.int p0), .val (.int p1), .val (.ref (f_of p0 p1 wP wB wT)), .val (.ref (f_of p1 p0 wP wB wT)), .val (.ref (f_of p0 p0 wP wB wT)), .val (.long ((p0.toInt64) - (p1.toInt64))), .second, .val (.ref wB), .val (.ref wP)] [(.int (1 : Int32))])) _
        exact retN Xr6 hx (t := .boolean) Bd.returns (by simp) (hb hby at_101) hr
      · show Q_law Z p0 p1 h0 n0 _ Tr6.heap _
        rw [er6]
        exact ⟨rfl, Nr3⟩
    · obtain ⟨_, _, ⟨Tr1, Lr1, kr1, nr1⟩, -, Xr1, ⟨Lcr1, hQr1, lr1, yr1, zr1⟩, str1⟩ := Jvm.LawKit.callS X0 hx (y := (⟨"com/example/baize/baize/rules/BaccaratCoup$Result", "of", "(II)Lcom/example/baize/baize/rules/BaccaratCoup$Result;"⟩ : MethodName)) hown (mvT hZ (hw _ (List.mem_of_getElem? (i := 0) rfl))) (mvT hZ (hw _ (List.mem_of_getElem? (i := 1) rfl))) (mvT hZ (hw _ (List.mem_of_getElem? (i := 2) rfl))) (mvT hZ (hw _ (List.mem_of_getElem? (i := 3) rfl))) (by decide) (backOf (W := 0) (rm_of l Z a0 hw [] p0 p1 wP wB wT h0 n0 Z0 S_P S_B S_T) hZ (hw _ (List.mem_of_getElem? (i := 3) rfl)) (hw _ (List.mem_of_getElem? (i := 2) rfl)) (by decide) (by decide)) (g := (mkF m 2 #[.val (.int p0), .val (.int p1), .unset, .unset, .unset, .unset, .unset, .unset, .unset] [(.int p1), (.int p0)])) rfl (by rw [hml]; rfl) (argsL := [(.int p0), (.int p1)]) (rest := []) (lenOf pd_law_0 rfl) rfl (by show 2 * 0 + _ ≤ _; exact Nat.le_of_eq rfl) (hb hby at_2) (fun _ _ => ⟨rfl, e0, (by decide : 0 + 0 ≤ _), (by decide : 0 + 0 ≤ _)⟩)
      dsimp only [Pt.U, Pt.locs, Pt.cells, Pt.slots] at Xr1 lr1 yr1 zr1 str1 hQr1
      subst lr1 yr1 zr1
      obtain ⟨rfl, Nr1q, er1⟩ := hQr1
      have Nr1 := Fr.app N0 Nr1q
      obtain ⟨_, _, ⟨Tr2, Lr2, kr2, nr2⟩, -, Xr2, ⟨Lcr2, hQr2, lr2, yr2, zr2⟩, str2⟩ := Jvm.LawKit.callS Xr1 hx (y := (⟨"com/example/baize/baize/rules/BaccaratCoup$Result", "of", "(II)Lcom/example/baize/baize/rules/BaccaratCoup$Result;"⟩ : MethodName)) hown (mvT hZ (hw _ (List.mem_of_getElem? (i := 0) rfl))) (mvT hZ (hw _ (List.mem_of_getElem? (i := 1) rfl))) (mvT hZ (hw _ (List.mem_of_getElem? (i := 2) rfl))) (mvT hZ (hw _ (List.mem_of_getElem? (i := 3) rfl))) (by decide) (backOf (W := 0) (rm_of l Z a0 hw [] p1 p0 wP wB wT h0 n0 Z0 S_P S_B S_T) hZ (hw _ (List.mem_of_getElem? (i := 3) rfl)) (hw _ (List.mem_of_getElem? (i := 2) rfl)) (by decide) (by decide)) (g := (mkF m 8 #[.val (.int p0), .val (.int p1), .val (.ref (f_of p0 p1 wP wB wT)), .unset, .unset, .unset, .unset, .unset, .unset] [(.int p0), (.int p1)])) rfl (by rw [hml]; rfl) (argsL := [(.int p1), (.int p0)]) (rest := []) (lenOf pd_law_0 rfl) rfl (by show 2 * 0 + _ ≤ _; exact Nat.le_of_eq rfl) (hb hby at_8) (fun _ _ => ⟨rfl, er1, (by decide : 0 + 0 ≤ _), (by decide : 0 + 0 ≤ _)⟩)
      dsimp only [Pt.U, Pt.locs, Pt.cells, Pt.slots] at Xr2 lr2 yr2 zr2 str2 hQr2
      subst lr2 yr2 zr2
      obtain ⟨rfl, Nr2q, er2⟩ := hQr2
      have Nr2 := Fr.app Nr1 Nr2q
      obtain ⟨_, _, ⟨Tr3, Lr3, kr3, nr3⟩, -, Xr3, ⟨Lcr3, hQr3, lr3, yr3, zr3⟩, str3⟩ := Jvm.LawKit.callS Xr2 hx (y := (⟨"com/example/baize/baize/rules/BaccaratCoup$Result", "of", "(II)Lcom/example/baize/baize/rules/BaccaratCoup$Result;"⟩ : MethodName)) hown (mvT hZ (hw _ (List.mem_of_getElem? (i := 0) rfl))) (mvT hZ (hw _ (List.mem_of_getElem? (i := 1) rfl))) (mvT hZ (hw _ (List.mem_of_getElem? (i := 2) rfl))) (mvT hZ (hw _ (List.mem_of_getElem? (i := 3) rfl))) (by decide) (backOf (W := 0) (rm_of l Z a0 hw [] p0 p0 wP wB wT h0 n0 Z0 S_P S_B S_T) hZ (hw _ (List.mem_of_getElem? (i := 3) rfl)) (hw _ (List.mem_of_getElem? (i := 2) rfl)) (by decide) (by decide)) (g := (mkF m 14 #[.val (.int p0), .val (.int p1), .val (.ref (f_of p0 p1 wP wB wT)), .val (.ref (f_of p1 p0 wP wB wT)), .unset, .unset, .unset, .unset, .unset] [(.int p0), (.int p0)])) rfl (by rw [hml]; rfl) (argsL := [(.int p0), (.int p0)]) (rest := []) (lenOf pd_law_0 rfl) rfl (by show 2 * 0 + _ ≤ _; exact Nat.le_of_eq rfl) (hb hby at_14) (fun _ _ => ⟨rfl, er2, (by decide : 0 + 0 ≤ _), (by decide : 0 + 0 ≤ _)⟩)
      dsimp only [Pt.U, Pt.locs, Pt.cells, Pt.slots] at Xr3 lr3 yr3 zr3 str3 hQr3
      subst lr3 yr3 zr3
      obtain ⟨rfl, Nr3q, er3⟩ := hQr3
      have Nr3 := Fr.app Nr2 Nr3q
      obtain ⟨Tr4, Xr4, er4, str4⟩ := getS2 Xr3 hx hZ hown (host := "") (Or.inl (hw _ (List.mem_of_getElem? (i := 12) rfl))) Via.refl er3 S_T (g := (mkF m 66 #[.val (.int p0), .val (.int p1), .val (.ref (f_of p0 p1 wP wB wT)), .val (.ref (f_of p1 p0 wP wB wT)), .val (.ref (f_of p0 p0 wP wB wT)), .val (.long ((p0.toInt64) - (p1.toInt64))), .second, .unset, .unset] [])) rfl (hb hby at_66)
      obtain ⟨Tr5, Xr5, er5, str5⟩ := getS2 Xr4 hx hZ hown (host := "") (Or.inl (hw _ (List.mem_of_getElem? (i := 12) rfl))) Via.refl er4 S_T (g := (mkF m 71 #[.val (.int p0), .val (.int p1), .val (.ref (f_of p0 p1 wP wB wT)), .val (.ref (f_of p1 p0 wP wB wT)), .val (.ref (f_of p0 p0 wP wB wT)), .val (.long ((p0.toInt64) - (p1.toInt64))), .second, .val (.ref wT), .unset] [])) rfl (hb hby at_71)
      obtain ⟨Tr6, Xr6, er6, str6⟩ := getS2 Xr5 hx hZ hown (host := "") (Or.inl (hw _ (List.mem_of_getElem? (i := 12) rfl))) Via.refl er5 S_T (g := (mkF m 90 #[.val (.int p0), .val (.int p1), .val (.ref (f_of p0 p1 wP wB wT)), .val (.ref (f_of p1 p0 wP wB wT)), .val (.ref (f_of p0 p0 wP wB wT)), .val (.long ((p0.toInt64) - (p1.toInt64))), .second, .val (.ref wT), .val (.ref wT)] [(.ref (f_of p0 p0 wP wB wT))])) rfl (hb hby at_90)
      obtain ⟨fs, hr, hrun, hended, hW, hsame⟩ := Xr6.leave (v := some (.int (1 : Int32))) (fun h => by rw [Bd.returns] at h; cases h)
      refine ⟨_, _, pre0 _ ?_, hrun, hended, _, _, rfl, ?_, ⟨_, rfl⟩, hW, hsame.mono (by decide) (by decide)⟩
      · show Steps p.tables e below (s₁.setTop (mkF m 0 #[.val (.int p0), .val (.int p1), .unset, .unset, .unset, .unset, .unset, .unset, .unset] [])) _
        refine XS.iloadN X0.here hx rfl (hb hby at_0) rfl ?_
        show Steps p.tables e below (s₁.setTop (mkF m 1 #[.val (.int p0), .val (.int p1), .unset, .unset, .unset, .unset, .unset, .unset, .unset] [(.int p0)])) _
        refine XS.iloadN X0.here hx rfl (hb hby at_1) rfl ?_
        show Steps p.tables e below (s₁.setTop (mkF m 2 #[.val (.int p0), .val (.int p1), .unset, .unset, .unset, .unset, .unset, .unset, .unset] [(.int p1), (.int p0)])) _
        refine str1 _ ?_
        show Steps p.tables e below (Tr1.setTop (mkF m 5 #[.val (.int p0), .val (.int p1), .unset, .unset, .unset, .unset, .unset, .unset, .unset] [(.ref (f_of p0 p1 wP wB wT))])) _
        refine XS.astoreN Xr1.here hx rfl (hb hby at_5) rfl rfl (l' := #[.val (.int p0), .val (.int p1), .val (.ref (f_of p0 p1 wP wB wT)), .unset, .unset, .unset, .unset, .unset, .unset]) rfl ?_
        show Steps p.tables e below (Tr1.setTop (mkF m 6 #[.val (.int p0), .val (.int p1), .val (.ref (f_of p0 p1 wP wB wT)), .unset, .unset, .unset, .unset, .unset, .unset] [])) _
        refine XS.iloadN Xr1.here hx rfl (hb hby at_6) rfl ?_
        show Steps p.tables e below (Tr1.setTop (mkF m 7 #[.val (.int p0), .val (.int p1), .val (.ref (f_of p0 p1 wP wB wT)), .unset, .unset, .unset, .unset, .unset, .unset] [(.int p1)])) _
        refine XS.iloadN Xr1.here hx rfl (hb hby at_7) rfl ?_
        show Steps p.tables e below (Tr1.setTop (mkF m 8 #[.val (.int p0), .val (.int p1), .val (.ref (f_of p0 p1 wP wB wT)), .unset, .unset, .unset, .unset, .unset, .unset] [(.int p0), (.int p1)])) _
        refine str2 _ ?_
        show Steps p.tables e below (Tr2.setTop (mkF m 11 #[.val (.int p0), .val (.int p1), .val (.ref (f_of p0 p1 wP wB wT)), .unset, .unset, .unset, .unset, .unset, .unset] [(.ref (f_of p1 p0 wP wB wT))])) _
        refine XS.astoreN Xr2.here hx rfl (hb hby at_11) rfl rfl (l' := #[.val (.int p0), .val (.int p1), .val (.ref (f_of p0 p1 wP wB wT)), .val (.ref (f_of p1 p0 wP wB wT)), .unset, .unset, .unset, .unset, .unset]) rfl ?_
        show Steps p.tables e below (Tr2.setTop (mkF m 12 #[.val (.int p0), .val (.int p1), .val (.ref (f_of p0 p1 wP wB wT)), .val (.ref (f_of p1 p0 wP wB wT)), .unset, .unset, .unset, .unset, .unset] [])) _
        refine XS.iloadN Xr2.here hx rfl (hb hby at_12) rfl ?_
        show Steps p.tables e below (Tr2.setTop (mkF m 13 #[.val (.int p0), .val (.int p1), .val (.ref (f_of p0 p1 wP wB wT)), .val (.ref (f_of p1 p0 wP wB wT)), .unset, .unset, .unset, .unset, .unset] [(.int p0)])) _
        refine XS.iloadN Xr2.here hx rfl (hb hby at_13) rfl ?_
        show Steps p.tables e below (Tr2.setTop (mkF m 14 #[.val (.int p0), .val (.int p1), .val (.ref (f_of p0 p1 wP wB wT)), .val (.ref (f_of p1 p0 wP wB wT)), .unset, .unset, .unset, .unset, .unset] [(.int p0), (.int p0)])) _
        refine str3 _ ?_
        show Steps p.tables e below (Tr3.setTop (mkF m 17 #[.val (.int p0), .val (.int p1), .val (.ref (f_of p0 p1 wP wB wT)), .val (.ref (f_of p1 p0 wP wB wT)), .unset, .unset, .unset, .unset, .unset] [(.ref (f_of p0 p0 wP wB wT))])) _
        refine XS.astore Xr3.here hx rfl (hb hby at_17) rfl rfl (l' := #[.val (.int p0), .val (.int p1), .val (.ref (f_of p0 p1 wP wB wT)), .val (.ref (f_of p1 p0 wP wB wT)), .val (.ref (f_of p0 p0 wP wB wT)), .unset, .unset, .unset, .unset]) rfl ?_
        show Steps p.tables e below (Tr3.setTop (mkF m 19 #[.val (.int p0), .val (.int p1), .val (.ref (f_of p0 p1 wP wB wT)), .val (.ref (f_of p1 p0 wP wB wT)), .val (.ref (f_of p0 p0 wP wB wT)), .unset, .unset, .unset, .unset] [])) _
        refine XS.iloadN Xr3.here hx rfl (hb hby at_19) rfl ?_
        show Steps p.tables e below (Tr3.setTop (mkF m 20 #[.val (.int p0), .val (.int p1), .val (.ref (f_of p0 p1 wP wB wT)), .val (.ref (f_of p1 p0 wP wB wT)), .val (.ref (f_of p0 p0 wP wB wT)), .unset, .unset, .unset, .unset] [(.int p0)])) _
        refine XS.i2l Xr3.here hx rfl (hb hby at_20) rfl ?_
        show Steps p.tables e below (Tr3.setTop (mkF m 21 #[.val (.int p0), .val (.int p1), .val (.ref (f_of p0 p1 wP wB wT)), .val (.ref (f_of p1 p0 wP wB wT)), .val (.ref (f_of p0 p0 wP wB wT)), .unset, .unset, .unset, .unset] [(.long (p0.toInt64))])) _
        refine XS.iloadN Xr3.here hx rfl (hb hby at_21) rfl ?_
        show Steps p.tables e below (Tr3.setTop (mkF m 22 #[.val (.int p0), .val (.int p1), .val (.ref (f_of p0 p1 wP wB wT)), .val (.ref (f_of p1 p0 wP wB wT)), .val (.ref (f_of p0 p0 wP wB wT)), .unset, .unset, .unset, .unset] [(.int p1), (.long (p0.toInt64))])) _
        refine XS.i2l Xr3.here hx rfl (hb hby at_22) rfl ?_
        show Steps p.tables e below (Tr3.setTop (mkF m 23 #[.val (.int p0), .val (.int p1), .val (.ref (f_of p0 p1 wP wB wT)), .val (.ref (f_of p1 p0 wP wB wT)), .val (.ref (f_of p0 p0 wP wB wT)), .unset, .unset, .unset, .unset] [(.long (p1.toInt64)), (.long (p0.toInt64))])) _
        refine XS.lsub Xr3.here hx rfl (hb hby at_23) rfl ?_
        show Steps p.tables e below (Tr3.setTop (mkF m 24 #[.val (.int p0), .val (.int p1), .val (.ref (f_of p0 p1 wP wB wT)), .val (.ref (f_of p1 p0 wP wB wT)), .val (.ref (f_of p0 p0 wP wB wT)), .unset, .unset, .unset, .unset] [(.long ((p0.toInt64) - (p1.toInt64)))])) _
        refine XS.lstore Xr3.here hx rfl (hb hby at_24) rfl (l' := #[.val (.int p0), .val (.int p1), .val (.ref (f_of p0 p1 wP wB wT)), .val (.ref (f_of p1 p0 wP wB wT)), .val (.ref (f_of p0 p0 wP wB wT)), .val (.long ((p0.toInt64) - (p1.toInt64))), .second, .unset, .unset]) rfl ?_
        show Steps p.tables e below (Tr3.setTop (mkF m 26 #[.val (.int p0), .val (.int p1), .val (.ref (f_of p0 p1 wP wB wT)), .val (.ref (f_of p1 p0 wP wB wT)), .val (.ref (f_of p0 p0 wP wB wT)), .val (.long ((p0.toInt64) - (p1.toInt64))), .second, .unset, .unset] [])) _
        refine XS.lload Xr3.here hx rfl (hb hby at_26) rfl ?_
        show Steps p.tables e below (Tr3.setTop (mkF m 28 #[.val (.int p0), .val (.int p1), .val (.ref (f_of p0 p1 wP wB wT)), .val (.ref (f_of p1 p0 wP wB wT)), .val (.ref (f_of p0 p0 wP wB wT)), .val (.long ((p0.toInt64) - (p1.toInt64))), .second, .unset, .unset] [(.long ((p0.toInt64) - (p1.toInt64)))])) _
        refine XS.lconst Xr3.here hx rfl (hb hby at_28) ?_
        show Steps p.tables e below (Tr3.setTop (mkF m 29 #[.val (.int p0), .val (.int p1), .val (.ref (f_of p0 p1 wP wB wT)), .val (.ref (f_of p1 p0 wP wB wT)), .val (.ref (f_of p0 p0 wP wB wT)), .val (.long ((p0.toInt64) - (p1.toInt64))), .second, .unset, .unset] [(.long (0 : Int64)), (.long ((p0.toInt64) - (p1.toInt64)))])) _
        refine XS.lcmp Xr3.here hx rfl (hb hby at_29) rfl ?_
        show Steps p.tables e below (Tr3.setTop (mkF m 30 #[.val (.int p0), .val (.int p1), .val (.ref (f_of p0 p1 wP wB wT)), .val (.ref (f_of p1 p0 wP wB wT)), .val (.ref (f_of p0 p0 wP wB wT)), .val (.long ((p0.toInt64) - (p1.toInt64))), .second, .unset, .unset] [(.int (lcmpW ((p0.toInt64) - (p1.toInt64)) (0 : Int64)))])) _
        refine XS.ifYes Xr3.here hx rfl (pc0 := 30) (pc' := 46) rfl (hb hby at_30) rfl ((if0 _ _).trans (flt (fun q => h1 ((own_gt p0 p1).mp q))).2.2.2) (by decide) (by decide) ?_
        show Steps p.tables e below (Tr3.setTop (mkF m 46 #[.val (.int p0), .val (.int p1), .val (.ref (f_of p0 p1 wP wB wT)), .val (.ref (f_of p1 p0 wP wB wT)), .val (.ref (f_of p0 p0 wP wB wT)), .val (.long ((p0.toInt64) - (p1.toInt64))), .second, .unset, .unset] [])) _
        refine XS.lload Xr3.here hx rfl (hb hby at_46) rfl ?_
        show Steps p.tables e below (Tr3.setTop (mkF m 48 #[.val (.int p0), .val (.int p1), .val (.ref (f_of p0 p1 wP wB wT)), .val (.ref (f_of p1 p0 wP wB wT)), .val (.ref (f_of p0 p0 wP wB wT)), .val (.long ((p0.toInt64) - (p1.toInt64))), .second, .unset, .unset] [(.long ((p0.toInt64) - (p1.toInt64)))])) _
        refine XS.lconst Xr3.here hx rfl (hb hby at_48) ?_
        show Steps p.tables e below (Tr3.setTop (mkF m 49 #[.val (.int p0), .val (.int p1), .val (.ref (f_of p0 p1 wP wB wT)), .val (.ref (f_of p1 p0 wP wB wT)), .val (.ref (f_of p0 p0 wP wB wT)), .val (.long ((p0.toInt64) - (p1.toInt64))), .second, .unset, .unset] [(.long (0 : Int64)), (.long ((p0.toInt64) - (p1.toInt64)))])) _
        refine XS.lcmp Xr3.here hx rfl (hb hby at_49) rfl ?_
        show Steps p.tables e below (Tr3.setTop (mkF m 50 #[.val (.int p0), .val (.int p1), .val (.ref (f_of p0 p1 wP wB wT)), .val (.ref (f_of p1 p0 wP wB wT)), .val (.ref (f_of p0 p0 wP wB wT)), .val (.long ((p0.toInt64) - (p1.toInt64))), .second, .unset, .unset] [(.int (lcmpW ((p0.toInt64) - (p1.toInt64)) (0 : Int64)))])) _
        refine XS.ifYes Xr3.here hx rfl (pc0 := 50) (pc' := 66) rfl (hb hby at_50) rfl ((if0 _ _).trans (flt (fun q => h2 ((own_lt p0 p1).mp q))).2.1) (by decide) (by decide) ?_
        show Steps p.tables e below (Tr3.setTop (mkF m 66 #[.val (.int p0), .val (.int p1), .val (.ref (f_of p0 p1 wP wB wT)), .val (.ref (f_of p1 p0 wP wB wT)), .val (.ref (f_of p0 p0 wP wB wT)), .val (.long ((p0.toInt64) - (p1.toInt64))), .second, .unset, .unset] [])) _
        refine str4 _ ?_
        show Steps p.tables e below (Tr4.setTop (mkF m 69 #[.val (.int p0), .val (.int p1), .val (.ref (f_of p0 p1 wP wB wT)), .val (.ref (f_of p1 p0 wP wB wT)), .val (.ref (f_of p0 p0 wP wB wT)), .val (.long ((p0.toInt64) - (p1.toInt64))), .second, .unset, .unset] [(.ref wT)])) _
        refine XS.astore Xr4.here hx rfl (hb hby at_69) rfl rfl (l' := #[.val (.int p0), .val (.int p1), .val (.ref (f_of p0 p1 wP wB wT)), .val (.ref (f_of p1 p0 wP wB wT)), .val (.ref (f_of p0 p0 wP wB wT)), .val (.long ((p0.toInt64) - (p1.toInt64))), .second, .val (.ref wT), .unset]) rfl ?_
        show Steps p.tables e below (Tr4.setTop (mkF m 71 #[.val (.int p0), .val (.int p1), .val (.ref (f_of p0 p1 wP wB wT)), .val (.ref (f_of p1 p0 wP wB wT)), .val (.ref (f_of p0 p0 wP wB wT)), .val (.long ((p0.toInt64) - (p1.toInt64))), .second, .val (.ref wT), .unset] [])) _
        refine str5 _ ?_
        show Steps p.tables e below (Tr5.setTop (mkF m 74 #[.val (.int p0), .val (.int p1), .val (.ref (f_of p0 p1 wP wB wT)), .val (.ref (f_of p1 p0 wP wB wT)), .val (.ref (f_of p0 p0 wP wB wT)), .val (.long ((p0.toInt64) - (p1.toInt64))), .second, .val (.ref wT), .unset] [(.ref wT)])) _
        refine XS.astore Xr5.here hx rfl (hb hby at_74) rfl rfl (l' := #[.val (.int p0), .val (.int p1), .val (.ref (f_of p0 p1 wP wB wT)), .val (.ref (f_of p1 p0 wP wB wT)), .val (.ref (f_of p0 p0 wP wB wT)), .val (.long ((p0.toInt64) - (p1.toInt64))), .second, .val (.ref wT), .val (.ref wT)]) rfl ?_
        show Steps p.tables e below (Tr5.setTop (mkF m 76 #[.val (.int p0), .val (.int p1), .val (.ref (f_of p0 p1 wP wB wT)), .val (.ref (f_of p1 p0 wP wB wT)), .val (.ref (f_of p0 p0 wP wB wT)), .val (.long ((p0.toInt64) - (p1.toInt64))), .second, .val (.ref wT), .val (.ref wT)] [])) _
        refine XS.aloadN Xr5.here hx rfl (hb hby at_76) rfl rfl ?_
        show Steps p.tables e below (Tr5.setTop (mkF m 77 #[.val (.int p0), .val (.int p1), .val (.ref (f_of p0 p1 wP wB wT)), .val (.ref (f_of p1 p0 wP wB wT)), .val (.ref (f_of p0 p0 wP wB wT)), .val (.long ((p0.toInt64) - (p1.toInt64))), .second, .val (.ref wT), .val (.ref wT)] [(.ref (f_of p0 p1 wP wB wT))])) _
        refine XS.aload Xr5.here hx rfl (hb hby at_77) rfl rfl ?_
        show Steps p.tables e below (Tr5.setTop (mkF m 79 #[.val (.int p0), .val (.int p1), .val (.ref (f_of p0 p1 wP wB wT)), .val (.ref (f_of p1 p0 wP wB wT)), .val (.ref (f_of p0 p0 wP wB wT)), .val (.long ((p0.toInt64) - (p1.toInt64))), .second, .val (.ref wT), .val (.ref wT)] [(.ref wT), (.ref (f_of p0 p1 wP wB wT))])) _
        refine Jvm.RoadKit.acmp (g := (mkF m 79 #[.val (.int p0), .val (.int p1), .val (.ref (f_of p0 p1 wP wB wT)), .val (.ref (f_of p1 p0 wP wB wT)), .val (.ref (f_of p0 p0 wP wB wT)), .val (.long ((p0.toInt64) - (p1.toInt64))), .second, .val (.ref wT), .val (.ref wT)] [(.ref wT), (.ref (f_of p0 p1 wP wB wT))])) Xr5 hx rfl rfl rfl (pc0 := 79) (pc' := 82) (same := true) rfl (hb hby at_79) rfl (decide_eq_true (congrArg Value.ref (f_eq wP wB wT h1 h2))) (by decide) (by decide) ?_
        show Steps p.tables e below (Tr5.setTop (mkF m 82 #[.val (.int p0), .val (.int p1), .val (.ref (f_of p0 p1 wP wB wT)), .val (.ref (f_of p1 p0 wP wB wT)), .val (.ref (f_of p0 p0 wP wB wT)), .val (.long ((p0.toInt64) - (p1.toInt64))), .second, .val (.ref wT), .val (.ref wT)] [])) _
        refine XS.aloadN Xr5.here hx rfl (hb hby at_82) rfl rfl ?_
        show Steps p.tables e below (Tr5.setTop (mkF m 83 #[.val (.int p0), .val (.int p1), .val (.ref (f_of p0 p1 wP wB wT)), .val (.ref (f_of p1 p0 wP wB wT)), .val (.ref (f_of p0 p0 wP wB wT)), .val (.long ((p0.toInt64) - (p1.toInt64))), .second, .val (.ref wT), .val (.ref wT)] [(.ref (f_of p1 p0 wP wB wT))])) _
        refine XS.aload Xr5.here hx rfl (hb hby at_83) rfl rfl ?_
        show Steps p.tables e below (Tr5.setTop (mkF m 85 #[.val (.int p0), .val (.int p1), .val (.ref (f_of p0 p1 wP wB wT)), .val (.ref (f_of p1 p0 wP wB wT)), .val (.ref (f_of p0 p0 wP wB wT)), .val (.long ((p0.toInt64) - (p1.toInt64))), .second, .val (.ref wT), .val (.ref wT)] [(.ref wT), (.ref (f_of p1 p0 wP wB wT))])) _
        refine Jvm.RoadKit.acmp (g := (mkF m 85 #[.val (.int p0), .val (.int p1), .val (.ref (f_of p0 p1 wP wB wT)), .val (.ref (f_of p1 p0 wP wB wT)), .val (.ref (f_of p0 p0 wP wB wT)), .val (.long ((p0.toInt64) - (p1.toInt64))), .second, .val (.ref wT), .val (.ref wT)] [(.ref wT), (.ref (f_of p1 p0 wP wB wT))])) Xr5 hx rfl rfl rfl (pc0 := 85) (pc' := 88) (same := true) rfl (hb hby at_85) rfl (decide_eq_true (congrArg Value.ref (f_eq wP wB wT h2 h1))) (by decide) (by decide) ?_
        show Steps p.tables e below (Tr5.setTop (mkF m 88 #[.val (.int p0), .val (.int p1), .val (.ref (f_of p0 p1 wP wB wT)), .val (.ref (f_of p1 p0 wP wB wT)), .val (.ref (f_of p0 p0 wP wB wT)), .val (.long ((p0.toInt64) - (p1.toInt64))), .second, .val (.ref wT), .val (.ref wT)] [])) _
        refine XS.aload Xr5.here hx rfl (hb hby at_88) rfl rfl ?_
        show Steps p.tables e below (Tr5.setTop (mkF m 90 #[.val (.int p0), .val (.int p1), .val (.ref (f_of p0 p1 wP wB wT)), .val (.ref (f_of p1 p0 wP wB wT)), .val (.ref (f_of p0 p0 wP wB wT)), .val (.long ((p0.toInt64) - (p1.toInt64))), .second, .val (.ref wT), .val (.ref wT)] [(.ref (f_of p0 p0 wP wB wT))])) _
        refine str6 _ ?_
        show Steps p.tables e below (Tr6.setTop (mkF m 93 #[.val (.int p0), .val (.int p1), .val (.ref (f_of p0 p1 wP wB wT)), .val (.ref (f_of p1 p0 wP wB wT)), .val (.ref (f_of p0 p0 wP wB wT)), .val (.long ((p0.toInt64) - (p1.toInt64))), .second, .val (.ref wT), .val (.ref wT)] [(.ref wT), (.ref (f_of p0 p0 wP wB wT))])) _
        refine Jvm.RoadKit.acmp (g := (mkF m 93 #[.val (.int p0), .val (.int p1), .val (.ref (f_of p0 p1 wP wB wT)), .val (.ref (f_of p1 p0 wP wB wT)), .val (.ref (f_of p0 p0 wP wB wT)), .val (.long ((p0.toInt64) - (p1.toInt64))), .second, .val (.ref wT), .val (.ref wT)] [(.ref wT), (.ref (f_of p0 p0 wP wB wT))])) Xr6 hx rfl rfl rfl (pc0 := 93) (pc' := 96) (same := true) rfl (hb hby at_93) rfl (decide_eq_true (congrArg Value.ref (f_eq wP wB wT Int32.lt_irrefl Int32.lt_irrefl))) (by decide) (by decide) ?_
        show Steps p.tables e below (Tr6.setTop (mkF m 96 #[.val (.int p0), .val (.int p1), .val (.ref (f_of p0 p1 wP wB wT)), .val (.ref (f_of p1 p0 wP wB wT)), .val (.ref (f_of p0 p0 wP wB wT)), .val (.long ((p0.toInt64) - (p1.toInt64))), .second, .val (.ref wT), .val (.ref wT)] [])) _
        refine XS.iconst Xr6.here hx rfl (hb hby at_96) ?_
        show Steps p.tables e below (Tr6.setTop (mkF m 97 #[.val (.int p0), .val (.int p1), .val (.ref (f_of p0 p1 wP wB wT)), .val (.ref (f_of p1 p0 wP wB wT)), .val (.ref (f_of p0 p0 wP wB wT)), .val (.long ((p0.toInt64) - (p1.toInt64))), .second, .val (.ref wT), .val (.ref wT)] [(.int (1 : Int32))])) _
        refine XS.goto Xr6.here hx rfl (pc0 := 97) (pc' := 101) rfl (hb hby at_97) (by decide) (by decide) ?_
        show Steps p.tables e below (Tr6.setTop (mkF m 101 #[.val (.int p0), .val (.int p1), .val (.ref (f_of p0 p1 wP wB wT)), .val (.ref (f_of p1 p0 wP wB wT)), .val (.ref (f_of p0 p0 wP wB wT)), .val (.long ((p0.toInt64) - (p1.toInt64))), .second, .val (.ref wT), .val (.ref wT)] [(.int (1 : Int32))])) _
        exact retN Xr6 hx (t := .boolean) Bd.returns (by simp) (hb hby at_101) hr
      · show Q_law Z p0 p1 h0 n0 _ Tr6.heap _
        rw [er6]
        exact ⟨rfl, Nr3⟩
set_option maxRecDepth 65536 in
set_option maxHeartbeats 40000000 in
theorem comes_1 {Post : Tables → Env → Array Value → State → Outcome → State → Prop} (hpost : ∀ tb e args s v u, (limb_1_1.after args s (.returned v) u = true ∧ limb_1_2.after args s (.returned v) u = true ∧ True) → FrameEnd s (.returned v) u (Jvm.fieldLocs frame_1_writes args s ++ Jvm.arrayLocs frame_1_arrays args s ++ Jvm.staticLocs frame_1_statics s) 0 0 → Post tb e args s (.returned v) u) :
    ArmFor flags0 classFile x code maxLocals ret World_1 tables_1 room_1 Calls_1 rest_1 Pre_1 Post := by
  intro l hfl _ _ p e ha hc hk s m args below hf hA hF happ hP
  obtain ⟨hcalls, hrest, hpre⟩ := hP
  obtain ⟨-, -, -, hnamed, -, -, -, hat⟩ := (Spec.applies_iff hf).mp happ
  obtain ⟨hg, hn⟩ := and_e (Cond.before_iff.mp (show (Jvm.Cond.and given_1 narrow_1).before args s = true from hpre))
  obtain ⟨hcount, hq0⟩ := and_e hg
  obtain ⟨ha0, hq1⟩ := and_e hq0
  have ha1 := hq1
  obtain ⟨w0, w1, rfl⟩ : ∃ w0 w1 : Value, args = #[w0, w1] := by
    have hs : args.size = 2 := by simpa [Cond.value, given_1] using hcount
    obtain ⟨L⟩ := args
    match L, hs with
    | [w0, w1], _ => exact ⟨w0, w1, rfl⟩
  have hw := fun d (hd : d ∈ tables_1) => atoms_spec (ws := Jvm.Cond.code x code maxLocals ret :: tables_1) hat d (List.mem_cons_of_mem _ hd)
  have hfit : Fit s := fun {y c} hc i hi => by
    obtain ⟨ha, rfl⟩ := Array.getElem?_eq_some_iff.mp hc
    have q := List.all_eq_true.mp ((Array.all_eq_true_iff_forall_mem.mp hF) _ (Array.getElem_mem ha)) i (List.mem_range.mpr hi)
    simpa [Array.getElem?_eq_getElem hi] using q
  obtain ⟨i0, ei0⟩ := is_v ha0
  obtain rfl : w0 = (.int i0) := Option.some.inj ei0
  obtain ⟨i1, ei1⟩ := is_v ha1
  obtain rfl : w1 = (.int i1) := Option.some.inj ei1
  obtain ⟨nB, hn'⟩ := and_e hn
  obtain ⟨nP, nT⟩ := and_e hn'
  obtain ⟨wP, ewP⟩ := exa_v nP
  have S_P : Sta s s.heap "com/example/baize/baize/rules/BaccaratCoup$Result" "PLAYER" "Lcom/example/baize/baize/rules/BaccaratCoup$Result;" (.ref wP) := Sta.start ewP (Or.inr ⟨(hw _ (List.mem_of_getElem? (i := 2) rfl)), (hw _ (List.mem_of_getElem? (i := 7) rfl))⟩)
  obtain ⟨wB, ewB⟩ := exa_v nB
  have S_B : Sta s s.heap "com/example/baize/baize/rules/BaccaratCoup$Result" "BANKER" "Lcom/example/baize/baize/rules/BaccaratCoup$Result;" (.ref wB) := Sta.start ewB (Or.inr ⟨(hw _ (List.mem_of_getElem? (i := 2) rfl)), (hw _ (List.mem_of_getElem? (i := 5) rfl))⟩)
  obtain ⟨wT, ewT⟩ := exa_v nT
  have S_T : Sta s s.heap "com/example/baize/baize/rules/BaccaratCoup$Result" "TIE" "Lcom/example/baize/baize/rules/BaccaratCoup$Result;" (.ref wT) := Sta.start ewT (Or.inr ⟨(hw _ (List.mem_of_getElem? (i := 2) rfl)), (hw _ (List.mem_of_getElem? (i := 9) rfl))⟩)
  obtain ⟨n, o, h1, h2, h3, _, L, rfl, ⟨rfl, N⟩, hq⟩ := rm_law l s _ hw tables_1 i0 i1 wP wB wT s.heap s.heap.size (Nat.le_refl _) S_P S_B S_T p e ha hc hk s m _ below hf ((Spec.applies_iff_loose hf).mp happ).1 ⟨rfl, State.Warmed39.refl s, rfl⟩ trivial
  refine ⟨n, _, h1, h2, h3, hpost _ _ _ _ _ _ ⟨Cond.after_iff.mpr rfl, Cond.after_iff.mpr (eq_i res_at (Term.int_eval (1)) rfl), trivial⟩ ⟨hq.1, hq.2.1, (hq.2.2.sift fun y hy => Or.inr (N y hy)).mono (by decide) (by decide)⟩⟩
theorem main_1_1 : Claimed_1_1 := comes_1 fun _ _ _ _ _ _ h hF => ⟨h.1, hF⟩
theorem main_1_2 : Claimed_1_2 := comes_1 fun _ _ _ _ _ _ h hF => ⟨h.2.1, hF⟩
end Jvm.Pilot.@@N@@
namespace Jvm.Pilot.@@N@@
open Jvm Jvm.ClassFile Sem Op Lib Jvm.Free Jvm.Stand Jvm.Pilot.@@N@@.Jvm.D
/-! MADE BY PROGRAM (witnessworld.py) out of the Statement's table words and the real class files: 12 classes; the members and pool entries that the words name. The judged class is class 1, her method 1. -/
namespace start1
open Jvm.ClassFile
def u (s : String) : CpInfo := .utf8 (stringToUtf16 s)
/-- a pool by its gaps: so many unusable entries, then the entry; so many at the end -/
def gap : Nat → List CpInfo → List CpInfo
  | 0, r => r
  | n + 1, r => .unusable :: gap n r
def poolList (es : List (Nat × CpInfo)) (last : Nat) : List CpInfo := es.foldr (fun e r => gap e.1 (e.2 :: r)) (gap last [])
def pool (es : List (Nat × CpInfo)) (last : Nat) : Array CpInfo := ⟨poolList es last⟩
def fileOf (pool : Array CpInfo) (this : Nat) (attrs : Array Attribute := #[]) (ms : Array MethodInfo := #[]) (fl : Nat := 33) (sup : Nat := 0) (ifs : Array Nat := #[]) (fds : Array FieldInfo := #[]) : ClassFile where
  minorVersion := 0
  majorVersion := 65
  constantPool := pool
  accessFlags := fl
  thisClass := this
  superClass := sup
  interfaces := ifs
  fields := fds
  methods := ms
  attributes := attrs
def plain (name : String) (sup : Option ClassId) : Class where
  name := name
  kind := .ordinary
  loader := none
  accessFlags := 33
  super := sup
  interfaces := #[]
  cf := none
  fields := #[]
  methods := #[]
  instanceTypes := #[]
  staticTypes := #[]
  resolved := #[]
  callSites := []
  init := .initialized
  statics := none
  mirror := none

def pool0 : Array CpInfo := pool [(5, u "<init>"), (0, u "()V"), (1, .class_ 10), (1, u "java/lang/Object")] 113

def k0m0 : Method := { name := "<init>", desc := "()V", sig := { parameters := [], returnType := none }, accessFlags := 1, code := none }
/-- java/lang/Object -/
def k0 : Class := { plain "java/lang/Object" none with
  accessFlags := 33
  interfaces := #[]
  cf := some (fileOf pool0 8 #[] #[{ accessFlags := 1, nameIndex := 5, descriptorIndex := 6, attributes := #[] }] 33 0 #[] #[])
  fields := #[]
  methods := #[k0m0]
  instanceTypes := #[]
  staticTypes := #[]
  resolved := Array.replicate 124 none
  statics := none }

def pool1 : Array CpInfo := pool [(2, .class_ 4), (1, u "java/lang/Object"), (0, u "<init>"), (0, u "()V"), (0, .methodref 8 9), (0, .class_ 10), (0, .nameAndType 11 12), (0, u "com/example/baize/baize/rules/BaccaratCoup$Result"), (0, u "of"), (0, u "(II)Lcom/example/baize/baize/rules/BaccaratCoup$Result;"), (0, .fieldref 8 14), (0, .nameAndType 15 16), (0, u "PLAYER"), (0, u "Lcom/example/baize/baize/rules/BaccaratCoup$Result;"), (0, .fieldref 8 18), (0, .nameAndType 19 16), (0, u "BANKER"), (0, .fieldref 8 21), (0, .nameAndType 22 16), (0, u "TIE"), (0, .class_ 24), (0, u "com/example/baize/baize/rules/ResultOfPinLaw"), (2, u "law"), (0, u "(II)Z")] 7

def k1m0 : Method := { name := "<init>", desc := "()V", sig := { parameters := [], returnType := none }, accessFlags := 1, code := none }
def k1c1 : Code := { maxStack := 4, maxLocals := 9, code := code, exceptionTable := #[], attributes := #[] }
def k1m1 : Method := { name := "law", desc := "(II)Z", sig := { parameters := [.int, .int], returnType := some .boolean }, accessFlags := 9, code := some k1c1 }
/-- com/example/baize/baize/rules/ResultOfPinLaw -/
def k1 : Class := { plain "com/example/baize/baize/rules/ResultOfPinLaw" (some 0) with
  accessFlags := 49
  interfaces := #[]
  cf := some (fileOf pool1 23 #[] #[{ accessFlags := 1, nameIndex := 5, descriptorIndex := 6, attributes := #[] }, { accessFlags := 9, nameIndex := 27, descriptorIndex := 28, attributes := #[] }] 49 2 #[] #[])
  fields := #[]
  methods := #[k1m0, k1m1]
  instanceTypes := #[]
  staticTypes := #[]
  resolved := Array.replicate 36 none
  statics := none }

def pool2 : Array CpInfo := pool [(1, .class_ 2), (0, u "java/lang/constant/Constable"), (0, .class_ 4), (0, u "java/lang/Object")] 6

/-- java/lang/constant/Constable -/
def k2 : Class := { plain "java/lang/constant/Constable" (some 0) with
  accessFlags := 1537
  interfaces := #[]
  cf := some (fileOf pool2 1 #[] #[] 1537 3 #[] #[])
  fields := #[]
  methods := #[]
  instanceTypes := #[]
  staticTypes := #[]
  resolved := Array.replicate 11 none
  statics := none }

def pool3 : Array CpInfo := pool [(1, .class_ 2), (0, u "java/lang/Comparable"), (0, .class_ 4), (0, u "java/lang/Object")] 7

/-- java/lang/Comparable -/
def k3 : Class := { plain "java/lang/Comparable" (some 0) with
  accessFlags := 1537
  interfaces := #[]
  cf := some (fileOf pool3 1 #[] #[] 1537 3 #[] #[])
  fields := #[]
  methods := #[]
  instanceTypes := #[]
  staticTypes := #[]
  resolved := Array.replicate 12 none
  statics := none }

def pool4 : Array CpInfo := pool [(1, .class_ 2), (0, u "java/io/Serializable"), (0, .class_ 4), (0, u "java/lang/Object")] 2

/-- java/io/Serializable -/
def k4 : Class := { plain "java/io/Serializable" (some 0) with
  accessFlags := 1537
  interfaces := #[]
  cf := some (fileOf pool4 1 #[] #[] 1537 3 #[] #[])
  fields := #[]
  methods := #[]
  instanceTypes := #[]
  staticTypes := #[]
  resolved := Array.replicate 7 none
  statics := none }

def pool5 : Array CpInfo := pool [(2, .class_ 4), (1, u "java/lang/Enum"), (0, u "name"), (0, u "Ljava/lang/String;"), (2, u "ordinal"), (0, u "I"), (1, .class_ 14), (1, u "java/lang/Object"), (4, u "hash"), (86, .class_ 108), (1, u "java/lang/Enum$EnumDesc"), (2, .class_ 112), (0, u "java/lang/constant/Constable"), (0, .class_ 114), (0, u "java/lang/Comparable"), (0, .class_ 116), (0, u "java/io/Serializable")] 87

/-- java/lang/Enum -/
def k5 : Class := { plain "java/lang/Enum" (some 0) with
  accessFlags := 1057
  interfaces := #[2, 3, 4]
  cf := some (fileOf pool5 2 #[.nestMembers #[106]] #[] 1057 12 #[111, 113, 115] #[{ accessFlags := 18, nameIndex := 5, descriptorIndex := 6, attributes := #[] }, { accessFlags := 18, nameIndex := 9, descriptorIndex := 10, attributes := #[] }, { accessFlags := 2, nameIndex := 19, descriptorIndex := 10, attributes := #[] }])
  fields := #[{ name := "name", type := (.object "java/lang/String"), accessFlags := 18, slot := 0, constantValue := 0 }, { name := "ordinal", type := .int, accessFlags := 18, slot := 1, constantValue := 0 }, { name := "hash", type := .int, accessFlags := 2, slot := 2, constantValue := 0 }]
  methods := #[]
  instanceTypes := #[(.object "java/lang/String"), .int, .int]
  staticTypes := #[]
  resolved := Array.replicate 204 none
  statics := none }

def pool6 : Array CpInfo := pool [(1, .class_ 2), (0, u "com/example/baize/baize/rules/BaccaratCoup$Result"), (0, .fieldref 1 4), (0, .nameAndType 5 6), (0, u "PLAYER"), (0, u "Lcom/example/baize/baize/rules/BaccaratCoup$Result;"), (0, .fieldref 1 8), (0, .nameAndType 9 6), (0, u "BANKER"), (0, .fieldref 1 11), (0, .nameAndType 12 6), (0, u "TIE"), (2, u "$VALUES"), (0, u "[Lcom/example/baize/baize/rules/BaccaratCoup$Result;"), (6, .class_ 25), (1, u "java/lang/Enum"), (8, u "text"), (0, u "Ljava/lang/String;"), (23, u "of"), (0, u "(II)Lcom/example/baize/baize/rules/BaccaratCoup$Result;"), (8, .class_ 70), (0, u "com/example/baize/baize/rules/BaccaratCoup")] 2

def k6c0 : Code := { maxStack := 2, maxLocals := 2, code := prog_31_method_4_code, exceptionTable := #[], attributes := #[] }
def k6m0 : Method := { name := "of", desc := "(II)Lcom/example/baize/baize/rules/BaccaratCoup$Result;", sig := { parameters := [.int, .int], returnType := some (.object "com/example/baize/baize/rules/BaccaratCoup$Result") }, accessFlags := 9, code := some k6c0 }
/-- com/example/baize/baize/rules/BaccaratCoup$Result -/
def k6 : Class := { plain "com/example/baize/baize/rules/BaccaratCoup$Result" (some 5) with
  accessFlags := 16433
  interfaces := #[]
  cf := some (fileOf pool6 1 #[.nestHost 69] #[{ accessFlags := 9, nameIndex := 59, descriptorIndex := 60, attributes := #[] }] 16433 23 #[] #[{ accessFlags := 16409, nameIndex := 5, descriptorIndex := 6, attributes := #[] }, { accessFlags := 16409, nameIndex := 9, descriptorIndex := 6, attributes := #[] }, { accessFlags := 16409, nameIndex := 12, descriptorIndex := 6, attributes := #[] }, { accessFlags := 18, nameIndex := 34, descriptorIndex := 35, attributes := #[] }, { accessFlags := 4122, nameIndex := 15, descriptorIndex := 16, attributes := #[] }])
  fields := #[{ name := "PLAYER", type := (.object "com/example/baize/baize/rules/BaccaratCoup$Result"), accessFlags := 16409, slot := 0, constantValue := 0 }, { name := "BANKER", type := (.object "com/example/baize/baize/rules/BaccaratCoup$Result"), accessFlags := 16409, slot := 1, constantValue := 0 }, { name := "TIE", type := (.object "com/example/baize/baize/rules/BaccaratCoup$Result"), accessFlags := 16409, slot := 2, constantValue := 0 }, { name := "text", type := (.object "java/lang/String"), accessFlags := 18, slot := 3, constantValue := 0 }, { name := "$VALUES", type := (.array (.object "com/example/baize/baize/rules/BaccaratCoup$Result")), accessFlags := 4122, slot := 3, constantValue := 0 }]
  methods := #[k6m0]
  instanceTypes := #[(.object "java/lang/String"), .int, .int, (.object "java/lang/String")]
  staticTypes := #[(.object "com/example/baize/baize/rules/BaccaratCoup$Result"), (.object "com/example/baize/baize/rules/BaccaratCoup$Result"), (.object "com/example/baize/baize/rules/BaccaratCoup$Result"), (.array (.object "com/example/baize/baize/rules/BaccaratCoup$Result"))]
  resolved := Array.replicate 73 none
  statics := some 0 }

def pool7 : Array CpInfo := pool [(1, u "java/lang/Cloneable"), (0, .class_ 1), (0, u "java/lang/Object"), (0, .class_ 3)] 3

/-- java/lang/Cloneable -/
def k7 : Class := { plain "java/lang/Cloneable" (some 0) with
  accessFlags := 1537
  interfaces := #[]
  cf := some (fileOf pool7 2 #[] #[] 1537 4 #[] #[])
  fields := #[]
  methods := #[]
  instanceTypes := #[]
  staticTypes := #[]
  resolved := Array.replicate 8 none
  statics := none }

/-- the primitive byte -/
def k8 : Class := { plain "byte" none with kind := .primitive 'B', accessFlags := 0x411 }
/-- [B -/
def k9 : Class := { plain "[B" (some 0) with kind := .array 8 .byte, interfaces := #[7, 4], accessFlags := 1041 }

/-- the primitive int -/
def k10 : Class := { plain "int" none with kind := .primitive 'I', accessFlags := 0x411 }
/-- [I -/
def k11 : Class := { plain "[I" (some 0) with kind := .array 10 .int, interfaces := #[7, 4], accessFlags := 1041 }

def heap : Heap := #[{ cls := 6, slots := #[.ref 1, .ref 2, .ref 3, .null], vm := .statics 6 },
  { cls := 6, slots := #[.null, .int 0, .int 0, .null], vm := .none },
  { cls := 6, slots := #[.null, .int 0, .int 0, .null], vm := .none },
  { cls := 6, slots := #[.null, .int 0, .int 0, .null], vm := .none }]
def classes : Array Class := #[k0, k1, k2, k3, k4, k5, k6, k7, k8, k9, k10, k11]
def interned : List (Array UInt16 × Addr) := []
def slotsUsed : Nat := 16
def theMethod : MethodId := ⟨1, 1⟩
def args0 : Array Value := #[.int 5, .int 7]
def aboutOver (below : List Frame) : State where
  vm := { classes := classes, interned := interned.toArray }
  heap := heap
  slotsUsed := slotsUsed
  threads := #[{ frames := .invoking theMethod args0 :: below }]
def below0 : List Frame := [.native { method := ⟨0, 0⟩, args := #[] }]
def about1 : State := aboutOver below0
def p0 : Program := .bare "" "" ""
def e0 : Env := launch0.env 0 0 0
theorem w_frames : about1.frames = Frame.invoking theMethod args0 :: below0 := rfl
set_option maxRecDepth 65536 in
theorem w_args : argsFit about1.vm theMethod args0 = true := by decide +kernel
set_option maxRecDepth 65536 in
theorem w_heap : heapFits about1 = true := by decide +kernel
set_option maxRecDepth 65536 in
theorem w_runnable : about1.curStatus? = some .runnable := by decide +kernel
set_option maxRecDepth 65536 in
theorem w_alone : about1.alone = true := by decide +kernel
set_option maxRecDepth 65536 in
theorem w_named : about1.methodNamed? x = some theMethod := by decide +kernel
set_option maxRecDepth 65536 in
theorem w_hears : about1.hears theMethod below0 = true := by decide +kernel
set_option maxRecDepth 65536 in
theorem w_ripe : about1.ripe theMethod args0 below0 = true := by decide +kernel
theorem w_running : about1.status = .running := rfl
set_option maxRecDepth 65536 in
theorem w_room : about1.hasRoom e0.platform room_1 = true :=
  launch0.hasRoom_least _ room_1 (by decide +kernel) (by decide +kernel) (by decide +kernel) (by decide +kernel) (by decide +kernel) (by decide +kernel)
theorem allAtoms_all (ts : List Jvm.Cond) (a : Array Jvm.Value) (st : Jvm.State) : (allAtoms ts).before a st = ts.all (fun c => c.before a st) := by
  induction ts with
  | nil => rfl
  | cons c t ih =>
    show (Jvm.Cond.and c (allAtoms t)).before a st = _
    rw [Jvm.Cond.before_and, ih, List.all_cons]
def words1 : List Jvm.Cond := Jvm.Cond.code x code maxLocals ret :: tables_1
/-- a 'code' word, met by the world's own term for the bytes: nothing is compared byte by byte -/
theorem code_word {y : MethodName} {bytes : ByteArray} {mx : Nat} {rt : Option FieldType} {a : Array Value} {s : State} {m : MethodId} {meth : Method} {c : Code} (h1 : s.methodNamed? y = some m) (h2 : s.vm.method? m = some meth) (h3 : meth.code = some c) (h4 : c.code = bytes)
    (h5 : (c.maxLocals == mx && c.exceptionTable.isEmpty && decide (c.maxStack ≤ mostOperands) && decide (meth.sig.returnType = rt) && !meth.locks && decide (parseMethodDescriptor y.desc = some meth.sig)) = true) : (Jvm.Cond.code y bytes mx rt).before a s = true := by
  simp only [Bool.and_eq_true, beq_iff_eq, Bool.not_eq_true', decide_eq_true_eq] at h5
  obtain ⟨⟨⟨⟨⟨g1, g2⟩, g3⟩, g4⟩, g5⟩, g6⟩ := h5
  simp [Cond.before, Cond.holds, Cond.value, h1, h2, h3, h4, g1, g2, g3, g4, g5, g6]
def isCode : Jvm.Cond → Bool
  | .code _ _ _ _ => true
  | _ => false
theorem all_split {L : List Jvm.Cond} {P : Jvm.Cond → Bool} (h1 : L.all (fun c => isCode c || P c) = true) (h2 : ∀ c ∈ L.filter isCode, P c = true) : L.all P = true := by
  refine List.all_eq_true.mpr fun c hc => ?_
  have h := List.all_eq_true.mp h1 c hc
  rcases Bool.eq_false_or_eq_true (isCode c) with hi | hi
  · exact h2 c (List.mem_filter.mpr ⟨hc, hi⟩)
  · simpa [hi] using h
set_option maxRecDepth 65536 in
theorem w_c0 : (Jvm.Cond.code x code maxLocals ret).before args0 about1 = true := code_word (m := ⟨1, 1⟩) (meth := k1m1) (c := k1c1) (by decide +kernel) rfl rfl rfl (by decide +kernel)
set_option maxRecDepth 65536 in
theorem w_c1 : (Jvm.Cond.code ({ cls := "com/example/baize/baize/rules/BaccaratCoup$Result", name := "of", desc := "(II)Lcom/example/baize/baize/rules/BaccaratCoup$Result;" } : Jvm.MethodName) prog_31_method_4_code (2 : Nat) (Option.some (Jvm.ClassFile.FieldType.object "com/example/baize/baize/rules/BaccaratCoup$Result"))).before args0 about1 = true := code_word (m := ⟨6, 0⟩) (meth := k6m0) (c := k6c0) (by decide +kernel) rfl rfl rfl (by decide +kernel)
def codes1 : List Jvm.Cond := [Jvm.Cond.code x code maxLocals ret, Jvm.Cond.code ({ cls := "com/example/baize/baize/rules/BaccaratCoup$Result", name := "of", desc := "(II)Lcom/example/baize/baize/rules/BaccaratCoup$Result;" } : Jvm.MethodName) prog_31_method_4_code (2 : Nat) (Option.some (Jvm.ClassFile.FieldType.object "com/example/baize/baize/rules/BaccaratCoup$Result"))]
set_option maxRecDepth 65536 in
theorem codes_eq : words1.filter isCode = codes1 := rfl
theorem w_codes : ∀ c ∈ words1.filter isCode, c.before args0 about1 = true := by
  rw [codes_eq]
  intro c hc
  simp only [codes1, List.mem_cons, List.not_mem_nil, or_false] at hc
  rcases hc with rfl | rfl
  · exact w_c0
  · exact w_c1
set_option maxRecDepth 65536 in
theorem w_t1 : words1.all (fun c => isCode c || c.before args0 about1) = true := by decide +kernel
theorem w_tables : (allAtoms (Jvm.Cond.code x code maxLocals ret :: tables_1)).before args0 about1 = true := by
  rw [allAtoms_all]
  show words1.all (fun c => c.before args0 about1) = true
  refine all_split ?_ w_codes
  rw [w_t1]
set_option maxRecDepth 65536 in
theorem w_case : (Jvm.Cond.and given_1 narrow_1).before args0 about1 = true := by decide +kernel
theorem w_applies : (headSpec (Jvm.Cond.code x code maxLocals ret :: tables_1) room_1).applies x e0.platform about1 = true :=
  (Spec.applies_iff w_frames).mpr ⟨w_running, w_runnable, w_alone, w_named, w_hears, w_ripe, w_room, w_tables⟩
theorem atStart : AtStart classFile x code maxLocals ret World_1 tables_1 room_1 Calls_1 rest_1 Pre_1 launch0 p0 e0 about1 theMethod args0 below0 :=
  ⟨lists_1, trivial, launch0.admits_env _ _ _, launch0.least_env, fairChoices_fair.cas, fairChoices_fair.clock, w_frames, w_args, w_heap, w_applies, trivial, trivial, w_case⟩
end start1
theorem witness_1 : WitnessClaimed_1 := ⟨start1.p0, start1.e0, start1.about1, start1.theMethod, start1.args0, start1.below0, start1.atStart⟩
end Jvm.Pilot.@@N@@
