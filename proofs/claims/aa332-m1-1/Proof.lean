import JvmDerived
import JvmDerived.Pilot.@@N@@Statement
import JvmDerived.Pilot.@@N@@Code
set_option linter.unusedVariables false
set_option linter.unusedSimpArgs false
@@BLOCK:NumsL.lean.txt@@
namespace Jvm.RoadKit
open Sem ClassFile Op Lib Jvm.Stand Jvm.Free Jvm.LawKit
section New
variable {p : Program} {l : Launch} {e : Env} {R : Room} {s : State} {m : MethodId} {args : Array Value} {below : List Frame} {meth : Method} {c : Code} {T : State} {locs : List Loc} {cells slots : Nat}
theorem retI (X : Stand p l e R s m args below meth c T locs cells slots) (hx : p.tables.exec = Jvm.exec) {pc : Nat} {Ls : Array Slot} {z : Int32} {rest : List Value} (hret : meth.sig.returnType = some .int) (hd : decode c.code pc = .ok (.ireturn, 1)) {fs : List Frame}
    (hl : ∀ (f : JFrame) (acts : List Action), f.method = m → f.locked = none → f.entered = [] → (doReturn e (T.setTop f) acts (some (.int z))).1 = T.setFrames fs) : Steps p.tables e below (T.setTop (mkF m pc Ls (.int z :: rest))) (T.setFrames fs) := by
  have hm' : T.vm.method? m = some meth := X.method'
  have hn : narrow .int (.int z) = .int z := rfl
  show Steps p.tables e below (T.setTop { method := m, pc := pc, locals := Ls, stack := _ :: rest, locked := none }) _
  jvm_step X.here [X.here.top, hx, hd, hm', hret, hn]
  first | (intro acts; rw [hl _ acts rfl rfl rfl]) | rw [hl _ _ rfl rfl rfl]
  exact Steps.refl _
end New
end Jvm.RoadKit
namespace Jvm.Pilot.@@N@@
open Jvm Jvm.ClassFile Sem Op Lib Jvm.Free Jvm.Stand Jvm.LawKit Jvm.RoadKit Bundle Jvm.Pilot.@@N@@.Jvm.D
theorem d2_0 : decode jdk_30_method_1_code 0 = .ok (.aload_n 0, 1) := by decide +kernel
theorem d2_1 : decode jdk_30_method_1_code 1 = .ok (.invokespecial 1, 3) := by decide +kernel
theorem d2_4 : decode jdk_30_method_1_code 4 = .ok (.return_, 1) := by decide +kernel
theorem pn_rec : plainName "java/lang/Record" = true := by first | (simp [plainName, overriddenIn]; done) | decide +kernel
theorem ef_rec (m : MethodId) (o0 : Addr) : entryFrame m #[(.ref o0)] 1 = mkF m 0 #[.val (.ref o0)] [] := by first | (simp [entryFrame, mkF, argsToLocals, Value.category]; done) | rfl
def Q_rec (Z : State) (o0 : Addr) (h0 : Heap) (n0 : Nat) (v : Option Value) (h : Heap) (L : List Loc) : Prop := v = none ∧ Fr n0 L ∧ h = h0
set_option maxRecDepth 65536 in
set_option maxHeartbeats 40000000 in
theorem rm_rec (l : Launch) (Z : State) (a0 : Array Value) (hw : ∀ d ∈ tables_1, d.before a0 Z = true) (ws : List Jvm.Cond) (o0 : Addr) (h0 : Heap) (n0 : Nat) (Z0 : n0 ≤ h0.size) :
    MetFree l (⟨"java/lang/Record", "<init>", "()V"⟩ : MethodName) (head1 (Jvm.Cond.code (⟨"java/lang/Record", "<init>", "()V"⟩ : MethodName) jdk_30_method_1_code 1 none :: ws) ({ frames := 1, cells := 0, slots := 0, locals := 12 } : Room)) (fun a U => a = #[(.ref o0)] ∧ Z.Warmed39 U.vm ∧ U.heap = h0) (fun _ _ _ _ _ => True) (fun _ U o U' => ∃ v L, o = .returned v ∧ Q_rec Z o0 h0 n0 v U'.heap L ∧ FrameEnd U o U' L ({ frames := 1, cells := 0, slots := 0, locals := 12 } : Room).cells ({ frames := 1, cells := 0, slots := 0, locals := 12 } : Room).slots) := by
  refine MetFree.of_bodySF (plainFor_of_name pn_rec) hisR ?_
  intro p e s m args below meth c s₁ Bd hml0 hP hK
  obtain ⟨rfl, hZ, hh⟩ := hP
  have hx := Bd.exec
  have hby := Bd.bytes
  have hml : c.maxLocals = 1 := hml0
  have hown : s.vm.findClass "java/lang/Record" = some m.cls := findClass_of_methodNamed Bd.named
  have hnm := (name_of_methodNamed Bd.named Bd.method).1
  have X0 : Stand p l e ({ frames := 1, cells := 0, slots := 0, locals := 12 } : Room) s m #[(.ref o0)] below meth c s₁ [] 0 0 := Stand.of_body Bd
  have e0 : s₁.heap = h0 := by rw [← hh, Bd.state]; rfl
  have N0 := Fr.nil n0
  have pre0 : ∀ t, Steps p.tables e below (s₁.setTop (mkF m 0 #[.val (.ref o0)] [])) t → Steps p.tables e below (s₁.setTop (entryFrame m #[(.ref o0)] 1)) t := fun t k => castTop (ef_rec m o0) k
  obtain ⟨Tr1, Xr1, er1, str1⟩ := initO X0 hx hZ hown (hw _ (List.mem_of_getElem? (i := 12) rfl)) (hw _ (List.mem_of_getElem? (i := 13) rfl)) (hw _ (List.mem_of_getElem? (i := 14) rfl)) e0 (g := (mkF m 1 #[.val (.ref o0)] [(.ref o0)])) rfl (by rw [hml]; rfl) rfl (hb hby d2_1) (by decide) (W := 0) (by show 2 * 0 + _ ≤ _; exact Nat.le_of_eq rfl) (by decide)
  obtain ⟨fs, hr, hrun, hended, hW, hsame⟩ := Xr1.leave (v := none) (fun _ => rfl)
  refine ⟨_, _, pre0 _ ?_, hrun, hended, _, _, rfl, ?_, ⟨_, rfl⟩, hW, hsame.mono (by decide) (by decide)⟩
  · show Steps p.tables e below (s₁.setTop (mkF m 0 #[.val (.ref o0)] [])) _
    refine XS.aloadN X0.here hx rfl (hb hby d2_0) rfl rfl ?_
    show Steps p.tables e below (s₁.setTop (mkF m 1 #[.val (.ref o0)] [(.ref o0)])) _
    refine str1 _ ?_
    show Steps p.tables e below (Tr1.setTop (mkF m 4 #[.val (.ref o0)] [])) _
    exact Xr1.returnOut hx Bd.returns (hb hby d2_4) hr
  · show Q_rec Z o0 h0 n0 _ Tr1.heap _
    rw [er1]
    exact ⟨rfl, N0, rfl⟩
theorem d1_0 : decode prog_141_method_1_code 0 = .ok (.aload_n 0, 1) := by decide +kernel
theorem d1_1 : decode prog_141_method_1_code 1 = .ok (.invokespecial 1, 3) := by decide +kernel
theorem d1_4 : decode prog_141_method_1_code 4 = .ok (.aload_n 0, 1) := by decide +kernel
theorem d1_5 : decode prog_141_method_1_code 5 = .ok (.lload_n 1, 1) := by decide +kernel
theorem d1_6 : decode prog_141_method_1_code 6 = .ok (.putfield 7, 3) := by decide +kernel
theorem d1_9 : decode prog_141_method_1_code 9 = .ok (.aload_n 0, 1) := by decide +kernel
theorem d1_10 : decode prog_141_method_1_code 10 = .ok (.lload_n 3, 1) := by decide +kernel
theorem d1_11 : decode prog_141_method_1_code 11 = .ok (.putfield 13, 3) := by decide +kernel
theorem d1_14 : decode prog_141_method_1_code 14 = .ok (.aload_n 0, 1) := by decide +kernel
theorem d1_15 : decode prog_141_method_1_code 15 = .ok (.lload 5, 2) := by decide +kernel
theorem d1_17 : decode prog_141_method_1_code 17 = .ok (.putfield 16, 3) := by decide +kernel
theorem d1_20 : decode prog_141_method_1_code 20 = .ok (.return_, 1) := by decide +kernel
theorem pn_tally : plainName "com/example/refinory/refinory/status/Tally" = true := by first | (simp [plainName, overriddenIn]; done) | decide +kernel
theorem pd_tally_0 : parseMethodDescriptor "()V" = some ⟨[], none⟩ := by decide +kernel
theorem ef_tally (m : MethodId) (o0 : Addr) (q1 : Int64) (q2 : Int64) (q3 : Int64) : entryFrame m #[(.ref o0), (.long q1), (.long q2), (.long q3)] 7 = mkF m 0 #[.val (.ref o0), .val (.long q1), .second, .val (.long q2), .second, .val (.long q3), .second] [] := by first | (simp [entryFrame, mkF, argsToLocals, Value.category]; done) | rfl
def Q_tally (Z : State) (o0 : Addr) (q1 q2 q3 : Int64) (h0 : Heap) (n0 : Nat) (v : Option Value) (h : Heap) (L : List Loc) : Prop := v = none ∧ Fr n0 L ∧ Keep h0 h [o0] ∧ Exa Z h o0 "com/example/refinory/refinory/status/Tally" ∧ Fld Z h o0 "com/example/refinory/refinory/status/Tally" "nonObvious" "J" (.long q2) ∧ Fld Z h o0 "com/example/refinory/refinory/status/Tally" "unproved" "J" (.long q3)
set_option maxRecDepth 65536 in
set_option maxHeartbeats 40000000 in
theorem rm_tally (l : Launch) (Z : State) (a0 : Array Value) (hw : ∀ d ∈ tables_1, d.before a0 Z = true) (ws : List Jvm.Cond) (o0 : Addr) (q1 q2 q3 : Int64) (h0 : Heap) (n0 : Nat) (Z0 : n0 ≤ h0.size) (E_0 : Exa Z h0 o0 "com/example/refinory/refinory/status/Tally") (g_0 : n0 ≤ o0) (F_obvious : Fld Z h0 o0 "com/example/refinory/refinory/status/Tally" "obvious" "J" (.long (0 : Int64))) (F_nonObvious : Fld Z h0 o0 "com/example/refinory/refinory/status/Tally" "nonObvious" "J" (.long (0 : Int64))) (F_unproved : Fld Z h0 o0 "com/example/refinory/refinory/status/Tally" "unproved" "J" (.long (0 : Int64))) :
    MetFree l (⟨"com/example/refinory/refinory/status/Tally", "<init>", "(JJJ)V"⟩ : MethodName) (head1 (Jvm.Cond.code (⟨"com/example/refinory/refinory/status/Tally", "<init>", "(JJJ)V"⟩ : MethodName) prog_141_method_1_code 7 none :: ws) ({ frames := 2, cells := 0, slots := 0, locals := 24 } : Room)) (fun a U => a = #[(.ref o0), (.long q1), (.long q2), (.long q3)] ∧ Z.Warmed39 U.vm ∧ U.heap = h0) (fun _ _ _ _ _ => True) (fun _ U o U' => ∃ v L, o = .returned v ∧ Q_tally Z o0 q1 q2 q3 h0 n0 v U'.heap L ∧ FrameEnd U o U' L ({ frames := 2, cells := 0, slots := 0, locals := 24 } : Room).cells ({ frames := 2, cells := 0, slots := 0, locals := 24 } : Room).slots) := by
  refine MetFree.of_bodySF (plainFor_of_name pn_tally) hisR ?_
  intro p e s m args below meth c s₁ Bd hml0 hP hK
  obtain ⟨rfl, hZ, hh⟩ := hP
  have hx := Bd.exec
  have hby := Bd.bytes
  have hml : c.maxLocals = 7 := hml0
  have hown : s.vm.findClass "com/example/refinory/refinory/status/Tally" = some m.cls := findClass_of_methodNamed Bd.named
  have hnm := (name_of_methodNamed Bd.named Bd.method).1
  have X0 : Stand p l e ({ frames := 2, cells := 0, slots := 0, locals := 24 } : Room) s m #[(.ref o0), (.long q1), (.long q2), (.long q3)] below meth c s₁ [] 0 0 := Stand.of_body Bd
  have e0 : s₁.heap = h0 := by rw [← hh, Bd.state]; rfl
  have N0 := Fr.nil n0
  have pre0 : ∀ t, Steps p.tables e below (s₁.setTop (mkF m 0 #[.val (.ref o0), .val (.long q1), .second, .val (.long q2), .second, .val (.long q3), .second] [])) t → Steps p.tables e below (s₁.setTop (entryFrame m #[(.ref o0), (.long q1), (.long q2), (.long q3)] 7)) t := fun t k => castTop (ef_tally m o0 q1 q2 q3) k
  obtain ⟨_, _, ⟨Tr1, Lr1, kr1, nr1⟩, -, Xr1, ⟨Lcr1, hQr1, lr1, yr1, zr1⟩, str1⟩ := X0.specialBack hx (y := (⟨"java/lang/Record", "<init>", "()V"⟩ : MethodName)) rfl hown (mvT hZ (hw _ (List.mem_of_getElem? (i := 7) rfl))) (mvT hZ (hw _ (List.mem_of_getElem? (i := 8) rfl))) (mvT hZ (hw _ (List.mem_of_getElem? (i := 11) rfl))) (by decide) (backOf (W := 0) (rm_rec l Z a0 hw [] o0  h0 n0 Z0 ) hZ (hw _ (List.mem_of_getElem? (i := 11) rfl)) (hw _ (List.mem_of_getElem? (i := 10) rfl)) (by decide) (by decide)) (g := (mkF m 1 #[.val (.ref o0), .val (.long q1), .second, .val (.long q2), .second, .val (.long q3), .second] [(.ref o0)])) rfl (by rw [hml]; rfl) (Steps.refl _) (a := o0) (argsL := []) (rest := []) (lenOf pd_tally_0 rfl) rfl (by show 2 * 0 + _ ≤ _; exact Nat.le_of_eq rfl) (hb hby d1_1) (fun _ _ => ⟨rfl, e0, (by decide : 0 + 0 ≤ _), (by decide : 0 + 0 ≤ _)⟩)
  dsimp only [Pt.U, Pt.locs, Pt.cells, Pt.slots] at Xr1 lr1 yr1 zr1 str1 hQr1
  subst lr1 yr1 zr1
  obtain ⟨rfl, Nr1q, er1⟩ := hQr1
  have Nr1 := Fr.app N0 Nr1q
  obtain ⟨Tr2, hr2, Xr2, er2, Wr2, str2⟩ := putF Xr1 hx hZ hown (host := "") (Or.inl (hw _ (List.mem_of_getElem? (i := 15) rfl))) Via.refl er1 F_obvious E_0 (Or.inr ⟨(hw _ (List.mem_of_getElem? (i := 16) rfl)), rfl, hnm⟩) (hw _ (List.mem_of_getElem? (i := 2) rfl)) (ty := .long) (by decide) rfl rfl (g := (mkF m 6 #[.val (.ref o0), .val (.long q1), .second, .val (.long q2), .second, .val (.long q3), .second] [(.long q1), (.ref o0)])) rfl rfl (hb hby d1_6)
  have Fobvious_r2 := F_obvious.same Wr2
  have FnonObvious_r2 := F_nonObvious.other Wr2 (Or.inr (slot_ne (Or.inr (hw _ (List.mem_of_getElem? (i := 18) rfl))) (Or.inr (hw _ (List.mem_of_getElem? (i := 16) rfl))) (by decide) (t := .long) (t' := .long) (by decide) (by decide)))
  have Funproved_r2 := F_unproved.other Wr2 (Or.inr (slot_ne (Or.inr (hw _ (List.mem_of_getElem? (i := 20) rfl))) (Or.inr (hw _ (List.mem_of_getElem? (i := 16) rfl))) (by decide) (t := .long) (t' := .long) (by decide) (by decide)))
  have E_r2 := E_0.wr Wr2
  have K_r2 : Keep h0 hr2 [o0] := (Keep.refl h0 [o0]).wr Wr2 (Or.inl (List.mem_of_getElem? (i := 0) rfl))
  have Nr2 := Fr.snoc Xr2 Nr1 g_0
  obtain ⟨Tr3, hr3, Xr3, er3, Wr3, str3⟩ := putF Xr2 hx hZ hown (host := "") (Or.inl (hw _ (List.mem_of_getElem? (i := 17) rfl))) Via.refl er2 FnonObvious_r2 E_r2 (Or.inr ⟨(hw _ (List.mem_of_getElem? (i := 18) rfl)), rfl, hnm⟩) (hw _ (List.mem_of_getElem? (i := 2) rfl)) (ty := .long) (by decide) rfl rfl (g := (mkF m 11 #[.val (.ref o0), .val (.long q1), .second, .val (.long q2), .second, .val (.long q3), .second] [(.long q2), (.ref o0)])) rfl rfl (hb hby d1_11)
  have Fobvious_r3 := Fobvious_r2.other Wr3 (Or.inr (slot_ne (Or.inr (hw _ (List.mem_of_getElem? (i := 16) rfl))) (Or.inr (hw _ (List.mem_of_getElem? (i := 18) rfl))) (by decide) (t := .long) (t' := .long) (by decide) (by decide)))
  have FnonObvious_r3 := FnonObvious_r2.same Wr3
  have Funproved_r3 := Funproved_r2.other Wr3 (Or.inr (slot_ne (Or.inr (hw _ (List.mem_of_getElem? (i := 20) rfl))) (Or.inr (hw _ (List.mem_of_getElem? (i := 18) rfl))) (by decide) (t := .long) (t' := .long) (by decide) (by decide)))
  have E_r3 := E_r2.wr Wr3
  have K_r3 : Keep h0 hr3 [o0] := K_r2.wr Wr3 (Or.inl (List.mem_of_getElem? (i := 0) rfl))
  have Nr3 := Fr.snoc Xr3 Nr2 g_0
  obtain ⟨Tr4, hr4, Xr4, er4, Wr4, str4⟩ := putF Xr3 hx hZ hown (host := "") (Or.inl (hw _ (List.mem_of_getElem? (i := 19) rfl))) Via.refl er3 Funproved_r3 E_r3 (Or.inr ⟨(hw _ (List.mem_of_getElem? (i := 20) rfl)), rfl, hnm⟩) (hw _ (List.mem_of_getElem? (i := 2) rfl)) (ty := .long) (by decide) rfl rfl (g := (mkF m 17 #[.val (.ref o0), .val (.long q1), .second, .val (.long q2), .second, .val (.long q3), .second] [(.long q3), (.ref o0)])) rfl rfl (hb hby d1_17)
  have Fobvious_r4 := Fobvious_r3.other Wr4 (Or.inr (slot_ne (Or.inr (hw _ (List.mem_of_getElem? (i := 16) rfl))) (Or.inr (hw _ (List.mem_of_getElem? (i := 20) rfl))) (by decide) (t := .long) (t' := .long) (by decide) (by decide)))
  have FnonObvious_r4 := FnonObvious_r3.other Wr4 (Or.inr (slot_ne (Or.inr (hw _ (List.mem_of_getElem? (i := 18) rfl))) (Or.inr (hw _ (List.mem_of_getElem? (i := 20) rfl))) (by decide) (t := .long) (t' := .long) (by decide) (by decide)))
  have Funproved_r4 := Funproved_r3.same Wr4
  have E_r4 := E_r3.wr Wr4
  have K_r4 : Keep h0 hr4 [o0] := K_r3.wr Wr4 (Or.inl (List.mem_of_getElem? (i := 0) rfl))
  have Nr4 := Fr.snoc Xr4 Nr3 g_0
  obtain ⟨fs, hr, hrun, hended, hW, hsame⟩ := Xr4.leave (v := none) (fun _ => rfl)
  refine ⟨_, _, pre0 _ ?_, hrun, hended, _, _, rfl, ?_, ⟨_, rfl⟩, hW, hsame.mono (by decide) (by decide)⟩
  · show Steps p.tables e below (s₁.setTop (mkF m 0 #[.val (.ref o0), .val (.long q1), .second, .val (.long q2), .second, .val (.long q3), .second] [])) _
    refine XS.aloadN X0.here hx rfl (hb hby d1_0) rfl rfl ?_
    show Steps p.tables e below (s₁.setTop (mkF m 1 #[.val (.ref o0), .val (.long q1), .second, .val (.long q2), .second, .val (.long q3), .second] [(.ref o0)])) _
    refine str1.trans ?_
    show Steps p.tables e below (Tr1.setTop (mkF m 4 #[.val (.ref o0), .val (.long q1), .second, .val (.long q2), .second, .val (.long q3), .second] [])) _
    refine XS.aloadN Xr1.here hx rfl (hb hby d1_4) rfl rfl ?_
    show Steps p.tables e below (Tr1.setTop (mkF m 5 #[.val (.ref o0), .val (.long q1), .second, .val (.long q2), .second, .val (.long q3), .second] [(.ref o0)])) _
    refine XS.lloadN Xr1.here hx rfl (hb hby d1_5) rfl ?_
    show Steps p.tables e below (Tr1.setTop (mkF m 6 #[.val (.ref o0), .val (.long q1), .second, .val (.long q2), .second, .val (.long q3), .second] [(.long q1), (.ref o0)])) _
    refine str2 _ ?_
    show Steps p.tables e below (Tr2.setTop (mkF m 9 #[.val (.ref o0), .val (.long q1), .second, .val (.long q2), .second, .val (.long q3), .second] [])) _
    refine XS.aloadN Xr2.here hx rfl (hb hby d1_9) rfl rfl ?_
    show Steps p.tables e below (Tr2.setTop (mkF m 10 #[.val (.ref o0), .val (.long q1), .second, .val (.long q2), .second, .val (.long q3), .second] [(.ref o0)])) _
    refine XS.lloadN Xr2.here hx rfl (hb hby d1_10) rfl ?_
    show Steps p.tables e below (Tr2.setTop (mkF m 11 #[.val (.ref o0), .val (.long q1), .second, .val (.long q2), .second, .val (.long q3), .second] [(.long q2), (.ref o0)])) _
    refine str3 _ ?_
    show Steps p.tables e below (Tr3.setTop (mkF m 14 #[.val (.ref o0), .val (.long q1), .second, .val (.long q2), .second, .val (.long q3), .second] [])) _
    refine XS.aloadN Xr3.here hx rfl (hb hby d1_14) rfl rfl ?_
    show Steps p.tables e below (Tr3.setTop (mkF m 15 #[.val (.ref o0), .val (.long q1), .second, .val (.long q2), .second, .val (.long q3), .second] [(.ref o0)])) _
    refine XS.lload Xr3.here hx rfl (hb hby d1_15) rfl ?_
    show Steps p.tables e below (Tr3.setTop (mkF m 17 #[.val (.ref o0), .val (.long q1), .second, .val (.long q2), .second, .val (.long q3), .second] [(.long q3), (.ref o0)])) _
    refine str4 _ ?_
    show Steps p.tables e below (Tr4.setTop (mkF m 20 #[.val (.ref o0), .val (.long q1), .second, .val (.long q2), .second, .val (.long q3), .second] [])) _
    exact Xr4.returnOut hx Bd.returns (hb hby d1_20) hr
  · show Q_tally Z o0 q1 q2 q3 h0 n0 _ Tr4.heap _
    rw [er4]
    exact ⟨rfl, Nr4, K_r4, E_r4, FnonObvious_r4, Funproved_r4⟩
theorem own_cmp_eq (x y : Int64) : lcmpW x y = 0 ↔ x = y := by
  unfold lcmpW
  split
  · rename_i h
    constructor
    · intro q; exact absurd q (by decide)
    · intro q; subst q; exact absurd h Int64.lt_irrefl
  · split
    · rename_i q; exact ⟨fun _ => q, fun _ => rfl⟩
    · rename_i q; exact ⟨fun z => absurd z (by decide), fun z => absurd z q⟩
theorem own_cmp_lt (x y : Int64) : lcmpW x y < 0 ↔ x < y := by
  unfold lcmpW
  split
  · rename_i h
    constructor
    · intro q; exact absurd q (by decide)
    · intro q; exact absurd (Int64.lt_trans q h) Int64.lt_irrefl
  · rename_i h
    split
    · rename_i q; subst q; exact ⟨fun z => absurd z (by decide), fun z => absurd z Int64.lt_irrefl⟩
    · rename_i q
      refine ⟨fun _ => ?_, fun _ => by decide⟩
      rw [Int64.lt_iff_toInt_lt]
      have q' : x.toInt ≠ y.toInt := fun z => q (Int64.toInt_inj.mp z)
      have h' : ¬ y.toInt < x.toInt := fun z => h (Int64.lt_iff_toInt_lt.mpr z)
      omega
theorem own_cmp_gt (x y : Int64) : 0 < lcmpW x y ↔ y < x := by
  unfold lcmpW
  split
  · rename_i h; exact ⟨fun _ => h, fun _ => by decide⟩
  · rename_i h
    split
    · exact ⟨fun z => absurd z (by decide), fun z => absurd z h⟩
    · exact ⟨fun z => absurd z (by decide), fun z => absurd z h⟩
def f_pct (n u : Int64) : Int64 := if n = 0 then 100 else ((100 : Int64) * (n - u)) / n
theorem d4_0 : decode prog_141_method_4_code 0 = .ok (.aload_n 0, 1) := by decide +kernel
theorem d4_1 : decode prog_141_method_4_code 1 = .ok (.getfield 13, 3) := by decide +kernel
theorem d4_4 : decode prog_141_method_4_code 4 = .ok (.lconst 0, 1) := by decide +kernel
theorem d4_5 : decode prog_141_method_4_code 5 = .ok (.lcmp, 1) := by decide +kernel
theorem d4_6 : decode prog_141_method_4_code 6 = .ok (.ifCond .ne 9, 3) := by decide +kernel
theorem d4_9 : decode prog_141_method_4_code 9 = .ok (.ldc2_w 45, 3) := by decide +kernel
theorem d4_12 : decode prog_141_method_4_code 12 = .ok (.goto 21, 3) := by decide +kernel
theorem d4_15 : decode prog_141_method_4_code 15 = .ok (.ldc2_w 45, 3) := by decide +kernel
theorem d4_18 : decode prog_141_method_4_code 18 = .ok (.aload_n 0, 1) := by decide +kernel
theorem d4_19 : decode prog_141_method_4_code 19 = .ok (.getfield 13, 3) := by decide +kernel
theorem d4_22 : decode prog_141_method_4_code 22 = .ok (.aload_n 0, 1) := by decide +kernel
theorem d4_23 : decode prog_141_method_4_code 23 = .ok (.getfield 16, 3) := by decide +kernel
theorem d4_26 : decode prog_141_method_4_code 26 = .ok (.lsub, 1) := by decide +kernel
theorem d4_27 : decode prog_141_method_4_code 27 = .ok (.lmul, 1) := by decide +kernel
theorem d4_28 : decode prog_141_method_4_code 28 = .ok (.aload_n 0, 1) := by decide +kernel
theorem d4_29 : decode prog_141_method_4_code 29 = .ok (.getfield 13, 3) := by decide +kernel
theorem d4_32 : decode prog_141_method_4_code 32 = .ok (.ldiv, 1) := by decide +kernel
theorem d4_33 : decode prog_141_method_4_code 33 = .ok (.lreturn, 1) := by decide +kernel
theorem pn_pct : plainName "com/example/refinory/refinory/status/Tally" = true := by first | (simp [plainName, overriddenIn]; done) | decide +kernel
theorem ef_pct (m : MethodId) (o0 : Addr) : entryFrame m #[(.ref o0)] 1 = mkF m 0 #[.val (.ref o0)] [] := by first | (simp [entryFrame, mkF, argsToLocals, Value.category]; done) | rfl
def Q_pct (Z : State) (o0 : Addr) (wn wu : Int64) (h0 : Heap) (n0 : Nat) (v : Option Value) (h : Heap) (L : List Loc) : Prop := v = some (.long (f_pct wn wu)) ∧ Fr n0 L ∧ h = h0
set_option maxRecDepth 65536 in
set_option maxHeartbeats 40000000 in
theorem rm_pct (l : Launch) (Z : State) (a0 : Array Value) (hw : ∀ d ∈ tables_1, d.before a0 Z = true) (ws : List Jvm.Cond) (o0 : Addr) (wn wu : Int64) (h0 : Heap) (n0 : Nat) (Z0 : n0 ≤ h0.size) (F_n : Fld Z h0 o0 "com/example/refinory/refinory/status/Tally" "nonObvious" "J" (.long wn)) (F_u : Fld Z h0 o0 "com/example/refinory/refinory/status/Tally" "unproved" "J" (.long wu)) :
    MetFree l (⟨"com/example/refinory/refinory/status/Tally", "percentProved", "()J"⟩ : MethodName) (head1 (Jvm.Cond.code (⟨"com/example/refinory/refinory/status/Tally", "percentProved", "()J"⟩ : MethodName) prog_141_method_4_code 1 (some .long) :: ws) ({ frames := 0, cells := 0, slots := 0, locals := 0 } : Room)) (fun a U => a = #[(.ref o0)] ∧ Z.Warmed39 U.vm ∧ U.heap = h0) (fun _ _ _ _ _ => True) (fun _ U o U' => ∃ v L, o = .returned v ∧ Q_pct Z o0 wn wu h0 n0 v U'.heap L ∧ FrameEnd U o U' L ({ frames := 0, cells := 0, slots := 0, locals := 0 } : Room).cells ({ frames := 0, cells := 0, slots := 0, locals := 0 } : Room).slots) := by
  refine MetFree.of_bodySF (plainFor_of_name pn_pct) hisR ?_
  intro p e s m args below meth c s₁ Bd hml0 hP hK
  obtain ⟨rfl, hZ, hh⟩ := hP
  have hx := Bd.exec
  have hby := Bd.bytes
  have hml : c.maxLocals = 1 := hml0
  have hown : s.vm.findClass "com/example/refinory/refinory/status/Tally" = some m.cls := findClass_of_methodNamed Bd.named
  have hnm := (name_of_methodNamed Bd.named Bd.method).1
  have X0 : Stand p l e ({ frames := 0, cells := 0, slots := 0, locals := 0 } : Room) s m #[(.ref o0)] below meth c s₁ [] 0 0 := Stand.of_body Bd
  have e0 : s₁.heap = h0 := by rw [← hh, Bd.state]; rfl
  have N0 := Fr.nil n0
  have pre0 : ∀ t, Steps p.tables e below (s₁.setTop (mkF m 0 #[.val (.ref o0)] [])) t → Steps p.tables e below (s₁.setTop (entryFrame m #[(.ref o0)] 1)) t := fun t k => castTop (ef_pct m o0) k
  by_cases hn : wn = 0
  · have hf : f_pct wn wu = (100 : Int64) := by unfold f_pct; rw [if_pos hn]
    obtain ⟨Tr1, Xr1, er1, str1⟩ := getF X0 hx hZ hown (host := "") (Or.inl (hw _ (List.mem_of_getElem? (i := 17) rfl))) Via.refl e0 F_n (g := (mkF m 1 #[.val (.ref o0)] [(.ref o0)])) rfl rfl (hb hby d4_1)
    obtain ⟨fs, hr, hrun, hended, hW, hsame⟩ := Xr1.leave (v := some (.long (100 : Int64))) (fun h => by rw [Bd.returns] at h; cases h)
    refine ⟨_, _, pre0 _ ?_, hrun, hended, _, _, rfl, ?_, ⟨_, rfl⟩, hW, hsame.mono (by decide) (by decide)⟩
    · show Steps p.tables e below (s₁.setTop (mkF m 0 #[.val (.ref o0)] [])) _
      refine XS.aloadN X0.here hx rfl (hb hby d4_0) rfl rfl ?_
      show Steps p.tables e below (s₁.setTop (mkF m 1 #[.val (.ref o0)] [(.ref o0)])) _
      refine str1 _ ?_
      show Steps p.tables e below (Tr1.setTop (mkF m 4 #[.val (.ref o0)] [(.long wn)])) _
      refine XS.lconst Xr1.here hx rfl (hb hby d4_4) ?_
      show Steps p.tables e below (Tr1.setTop (mkF m 5 #[.val (.ref o0)] [(.long (0 : Int64)), (.long wn)])) _
      refine XS.lcmp Xr1.here hx rfl (hb hby d4_5) rfl ?_
      show Steps p.tables e below (Tr1.setTop (mkF m 6 #[.val (.ref o0)] [(.int (lcmpW wn (0 : Int64)))])) _
      refine XS.ifNo Xr1.here hx rfl (hb hby d4_6) rfl ((if0 _ _).trans (teq ((own_cmp_eq wn 0).mpr hn)).2) ?_
      show Steps p.tables e below (Tr1.setTop (mkF m 9 #[.val (.ref o0)] [])) _
      refine Xr1.ldc2Long hx hown (mvT hZ (hw _ (List.mem_of_getElem? (i := 26) rfl))) (g := (mkF m 9 #[.val (.ref o0)] [])) rfl (hb hby d4_9) _ ?_
      show Steps p.tables e below (Tr1.setTop (mkF m 12 #[.val (.ref o0)] [(.long (100 : Int64))])) _
      refine XS.goto Xr1.here hx rfl (pc0 := 12) (pc' := 33) rfl (hb hby d4_12) (by decide) (by decide) ?_
      show Steps p.tables e below (Tr1.setTop (mkF m 33 #[.val (.ref o0)] [(.long (100 : Int64))])) _
      jvm_step Xr1.here [Xr1.here.top, hx, (hb hby d4_33), Xr1.method', Bd.returns, narrow]
      first | (intro acts; rw [hr _ acts rfl rfl rfl]) | rw [hr _ _ rfl rfl rfl]
      exact Steps.refl _
    · show Q_pct Z o0 wn wu h0 n0 _ Tr1.heap _
      rw [er1]
      exact ⟨by rw [hf], N0, rfl⟩
  · have hf : f_pct wn wu = (((100 : Int64) * (wn - wu)) / wn) := by unfold f_pct; rw [if_neg hn]
    obtain ⟨Tr1, Xr1, er1, str1⟩ := getF X0 hx hZ hown (host := "") (Or.inl (hw _ (List.mem_of_getElem? (i := 17) rfl))) Via.refl e0 F_n (g := (mkF m 1 #[.val (.ref o0)] [(.ref o0)])) rfl rfl (hb hby d4_1)
    obtain ⟨Tr2, Xr2, er2, str2⟩ := getF Xr1 hx hZ hown (host := "") (Or.inl (hw _ (List.mem_of_getElem? (i := 17) rfl))) Via.refl er1 F_n (g := (mkF m 19 #[.val (.ref o0)] [(.ref o0), (.long (100 : Int64))])) rfl rfl (hb hby d4_19)
    obtain ⟨Tr3, Xr3, er3, str3⟩ := getF Xr2 hx hZ hown (host := "") (Or.inl (hw _ (List.mem_of_getElem? (i := 19) rfl))) Via.refl er2 F_u (g := (mkF m 23 #[.val (.ref o0)] [(.ref o0), (.long wn), (.long (100 : Int64))])) rfl rfl (hb hby d4_23)
    obtain ⟨Tr4, Xr4, er4, str4⟩ := getF Xr3 hx hZ hown (host := "") (Or.inl (hw _ (List.mem_of_getElem? (i := 17) rfl))) Via.refl er3 F_n (g := (mkF m 29 #[.val (.ref o0)] [(.ref o0), (.long ((100 : Int64) * (wn - wu)))])) rfl rfl (hb hby d4_29)
    obtain ⟨fs, hr, hrun, hended, hW, hsame⟩ := Xr4.leave (v := some (.long (((100 : Int64) * (wn - wu)) / wn))) (fun h => by rw [Bd.returns] at h; cases h)
    refine ⟨_, _, pre0 _ ?_, hrun, hended, _, _, rfl, ?_, ⟨_, rfl⟩, hW, hsame.mono (by decide) (by decide)⟩
    · show Steps p.tables e below (s₁.setTop (mkF m 0 #[.val (.ref o0)] [])) _
      refine XS.aloadN X0.here hx rfl (hb hby d4_0) rfl rfl ?_
      show Steps p.tables e below (s₁.setTop (mkF m 1 #[.val (.ref o0)] [(.ref o0)])) _
      refine str1 _ ?_
      show Steps p.tables e below (Tr1.setTop (mkF m 4 #[.val (.ref o0)] [(.long wn)])) _
      refine XS.lconst Xr1.here hx rfl (hb hby d4_4) ?_
      show Steps p.tables e below (Tr1.setTop (mkF m 5 #[.val (.ref o0)] [(.long (0 : Int64)), (.long wn)])) _
      refine XS.lcmp Xr1.here hx rfl (hb hby d4_5) rfl ?_
      show Steps p.tables e below (Tr1.setTop (mkF m 6 #[.val (.ref o0)] [(.int (lcmpW wn (0 : Int64)))])) _
      refine XS.ifYes Xr1.here hx rfl (pc0 := 6) (pc' := 15) rfl (hb hby d4_6) rfl ((if0 _ _).trans (feq (fun q => hn ((own_cmp_eq wn 0).mp q))).2) (by decide) (by decide) ?_
      show Steps p.tables e below (Tr1.setTop (mkF m 15 #[.val (.ref o0)] [])) _
      refine Xr1.ldc2Long hx hown (mvT hZ (hw _ (List.mem_of_getElem? (i := 26) rfl))) (g := (mkF m 15 #[.val (.ref o0)] [])) rfl (hb hby d4_15) _ ?_
      show Steps p.tables e below (Tr1.setTop (mkF m 18 #[.val (.ref o0)] [(.long (100 : Int64))])) _
      refine XS.aloadN Xr1.here hx rfl (hb hby d4_18) rfl rfl ?_
      show Steps p.tables e below (Tr1.setTop (mkF m 19 #[.val (.ref o0)] [(.ref o0), (.long (100 : Int64))])) _
      refine str2 _ ?_
      show Steps p.tables e below (Tr2.setTop (mkF m 22 #[.val (.ref o0)] [(.long wn), (.long (100 : Int64))])) _
      refine XS.aloadN Xr2.here hx rfl (hb hby d4_22) rfl rfl ?_
      show Steps p.tables e below (Tr2.setTop (mkF m 23 #[.val (.ref o0)] [(.ref o0), (.long wn), (.long (100 : Int64))])) _
      refine str3 _ ?_
      show Steps p.tables e below (Tr3.setTop (mkF m 26 #[.val (.ref o0)] [(.long wu), (.long wn), (.long (100 : Int64))])) _
      refine XS.lsub Xr3.here hx rfl (hb hby d4_26) rfl ?_
      show Steps p.tables e below (Tr3.setTop (mkF m 27 #[.val (.ref o0)] [(.long (wn - wu)), (.long (100 : Int64))])) _
      refine XS.lmul Xr3.here hx rfl (hb hby d4_27) rfl ?_
      show Steps p.tables e below (Tr3.setTop (mkF m 28 #[.val (.ref o0)] [(.long ((100 : Int64) * (wn - wu)))])) _
      refine XS.aloadN Xr3.here hx rfl (hb hby d4_28) rfl rfl ?_
      show Steps p.tables e below (Tr3.setTop (mkF m 29 #[.val (.ref o0)] [(.ref o0), (.long ((100 : Int64) * (wn - wu)))])) _
      refine str4 _ ?_
      show Steps p.tables e below (Tr4.setTop (mkF m 32 #[.val (.ref o0)] [(.long wn), (.long ((100 : Int64) * (wn - wu)))])) _
      refine XS.ldiv Xr4.here hx rfl (hb hby d4_32) rfl hn ?_
      show Steps p.tables e below (Tr4.setTop (mkF m 33 #[.val (.ref o0)] [(.long (((100 : Int64) * (wn - wu)) / wn))])) _
      jvm_step Xr4.here [Xr4.here.top, hx, (hb hby d4_33), Xr4.method', Bd.returns, narrow]
      first | (intro acts; rw [hr _ acts rfl rfl rfl]) | rw [hr _ _ rfl rfl rfl]
      exact Steps.refl _
    · show Q_pct Z o0 wn wu h0 n0 _ Tr4.heap _
      rw [er4]
      exact ⟨by rw [hf], N0, rfl⟩
theorem own_nu (a b : Int64) : ∃ n u : Int64, (a &&& (72057594037927935 : Int64)) = n ∧ n + (1 : Int64) ≠ 0 ∧ ((b &&& (72057594037927935 : Int64)) - ((b &&& (72057594037927935 : Int64)) / (n + (1 : Int64))) * (n + (1 : Int64))) = u ∧ 0 ≤ n.toInt ∧ n.toInt < 2 ^ 56 ∧ 0 ≤ u.toInt ∧ u.toInt ≤ n.toInt := by
  have e1 : (a &&& (72057594037927935 : Int64)).toInt = a.toInt % 2 ^ 56 := Jvm.Kit.i64_mask a 72057594037927935 (k := 56) (by decide) (by decide)
  have e2 : (b &&& (72057594037927935 : Int64)).toInt = b.toInt % 2 ^ 56 := Jvm.Kit.i64_mask b 72057594037927935 (k := 56) (by decide) (by decide)
  refine ⟨_, _, rfl, ?_, rfl, ?_, ?_, ?_, ?_⟩
  all_goals generalize (a &&& (72057594037927935 : Int64)) = n at *
  all_goals generalize (b &&& (72057594037927935 : Int64)) = m at *
  all_goals have e0 : (1 : Int64).toInt = 1 := rfl
  all_goals have e3 : (n + 1).toInt = n.toInt + 1 := by rw [Jvm.Kit.i64_add (by omega) (by omega), e0]
  · intro q; have q' : (n + 1).toInt = (0 : Int64).toInt := by rw [q]
    rw [e3, Int64.toInt_zero] at q'; omega
  · omega
  · omega
  · rw [Jvm.Kit.i64_rem_nonneg (by omega), e3]; exact Int.emod_nonneg _ (by omega)
  · rw [Jvm.Kit.i64_rem_nonneg (by omega), e3]
    have := Int.emod_lt_of_pos m.toInt (show 0 < n.toInt + 1 by omega)
    omega
theorem own_pct (n u : Int64) (hn : n ≠ 0) (h1 : 0 ≤ n.toInt) (h2 : n.toInt < 2 ^ 56) (h3 : 0 ≤ u.toInt) (h4 : u.toInt ≤ n.toInt) :
    ¬ (f_pct n u < 0) ∧ ¬ ((100 : Int64) < f_pct n u) ∧ ¬ (((100 : Int64) * (n - u)) < f_pct n u * n) ∧ ((100 : Int64) * (n - u)) < (f_pct n u + 1) * n := by
  have hp : 0 < n.toInt := by
    have : n.toInt ≠ 0 := fun q => hn (Int64.toInt_inj.mp (by rw [q]; rfl))
    omega
  have e100 : (100 : Int64).toInt = 100 := rfl
  have e1 : (1 : Int64).toInt = 1 := rfl
  have d1 : (n - u).toInt = n.toInt - u.toInt := Jvm.Kit.i64_sub (by omega) (by omega)
  have d2 : ((100 : Int64) * (n - u)).toInt = 100 * (n.toInt - u.toInt) := by rw [Jvm.Kit.i64_mul (by rw [e100, d1]; omega) (by rw [e100, d1]; omega), e100, d1]
  have d3 : (f_pct n u).toInt = (100 * (n.toInt - u.toInt)) / n.toInt := by
    unfold f_pct
    rw [if_neg hn, Jvm.Kit.i64_div (by rw [d2]; omega), d2, Int.tdiv_eq_ediv_of_nonneg (by omega)]
  have a1 : 0 ≤ (100 * (n.toInt - u.toInt)) / n.toInt := Int.ediv_nonneg (by omega) (by omega)
  have a2 : (100 * (n.toInt - u.toInt)) / n.toInt ≤ 100 := Int.ediv_le_of_le_mul hp (by omega)
  have a3 : (100 * (n.toInt - u.toInt)) / n.toInt * n.toInt ≤ 100 * (n.toInt - u.toInt) := Int.ediv_mul_le _ (by omega)
  have a4 : 100 * (n.toInt - u.toInt) < ((100 * (n.toInt - u.toInt)) / n.toInt + 1) * n.toInt := Int.lt_ediv_add_one_mul_self _ hp
  generalize hP : (100 * (n.toInt - u.toInt)) / n.toInt = P at *
  have b1 : P * n.toInt ≤ 100 * n.toInt := Int.mul_le_mul_of_nonneg_right a2 (by omega)
  have b2 : 0 ≤ P * n.toInt := Int.mul_nonneg a1 (by omega)
  have b3 : (P + 1) * n.toInt = P * n.toInt + n.toInt := by rw [Int.add_mul, Int.one_mul]
  have d4 : (f_pct n u * n).toInt = P * n.toInt := by rw [Jvm.Kit.i64_mul (by rw [d3]; omega) (by rw [d3]; omega), d3]
  have d5 : (f_pct n u + 1).toInt = P + 1 := by rw [Jvm.Kit.i64_add (by rw [d3, e1]; omega) (by rw [d3, e1]; omega), d3, e1]
  have d6 : ((f_pct n u + 1) * n).toInt = (P + 1) * n.toInt := by rw [Jvm.Kit.i64_mul (by rw [d5, b3]; omega) (by rw [d5, b3]; omega), d5]
  refine ⟨?_, ?_, ?_, ?_⟩
  · rw [Int64.lt_iff_toInt_lt, d3, Int64.toInt_zero]; omega
  · rw [Int64.lt_iff_toInt_lt, d3, e100]; omega
  · rw [Int64.lt_iff_toInt_lt, d2, d4]; omega
  · rw [Int64.lt_iff_toInt_lt, d2, d6]; omega
theorem pn_law : plainName "com/example/refinory/refinory/status/TallyPercentProvedPinLaw" = true := by first | (simp [plainName, overriddenIn]; done) | decide +kernel
theorem pd_law_0 : parseMethodDescriptor "(JJJ)V" = some ⟨[.long, .long, .long], none⟩ := by decide +kernel
theorem pd_law_1 : parseMethodDescriptor "()J" = some ⟨[], some .long⟩ := by decide +kernel
theorem ef_law (m : MethodId) (p0 : Int64) (p1 : Int64) (p2 : Int64) : entryFrame m #[(.long p0), (.long p1), (.long p2)] maxLocals = mkF m 0 #[.val (.long p0), .second, .val (.long p1), .second, .val (.long p2), .second, .unset, .unset, .unset, .unset, .unset, .unset, .unset, .unset, .unset] [] := by first | (simp [entryFrame, mkF, argsToLocals, Value.category, maxLocals]; done) | rfl
def Q_law (Z : State) (p0 : Int64) (p1 : Int64) (p2 : Int64) (h0 : Heap) (n0 : Nat) (v : Option Value) (h : Heap) (L : List Loc) : Prop := v = some (.int (1 : Int32)) ∧ Fr n0 L
set_option maxRecDepth 65536 in
set_option maxHeartbeats 40000000 in
theorem rm_law (l : Launch) (Z : State) (a0 : Array Value) (hw : ∀ d ∈ tables_1, d.before a0 Z = true) (ws : List Jvm.Cond) (p0 : Int64) (p1 : Int64) (p2 : Int64) (h0 : Heap) (n0 : Nat) (Z0 : n0 ≤ h0.size) :
    MetFree l x (head1 (Jvm.Cond.code x code maxLocals ret :: ws) room_1) (fun a U => a = #[(.long p0), (.long p1), (.long p2)] ∧ Z.Warmed39 U.vm ∧ U.heap = h0) (fun _ _ _ _ _ => True) (fun _ U o U' => ∃ v L, o = .returned v ∧ Q_law Z p0 p1 p2 h0 n0 v U'.heap L ∧ FrameEnd U o U' L room_1.cells room_1.slots) := by
  refine MetFree.of_bodySF (plainFor_of_name pn_law) hisR ?_
  intro p e s m args below meth c s₁ Bd hml0 hP hK
  obtain ⟨rfl, hZ, hh⟩ := hP
  have hx := Bd.exec
  have hby := Bd.bytes
  have hml : c.maxLocals = 15 := hml0
  have hown : s.vm.findClass "com/example/refinory/refinory/status/TallyPercentProvedPinLaw" = some m.cls := findClass_of_methodNamed Bd.named
  have hnm := (name_of_methodNamed Bd.named Bd.method).1
  have X0 : Stand p l e room_1 s m #[(.long p0), (.long p1), (.long p2)] below meth c s₁ [] 0 0 := Stand.of_body Bd
  have e0 : s₁.heap = h0 := by rw [← hh, Bd.state]; rfl
  have N0 := Fr.nil n0
  have pre0 : ∀ t, Steps p.tables e below (s₁.setTop (mkF m 0 #[.val (.long p0), .second, .val (.long p1), .second, .val (.long p2), .second, .unset, .unset, .unset, .unset, .unset, .unset, .unset, .unset, .unset] [])) t → Steps p.tables e below (s₁.setTop (entryFrame m #[(.long p0), (.long p1), (.long p2)] maxLocals)) t := fun t k => castTop (ef_law m p0 p1 p2) k
  obtain ⟨n, u, en, hnz, eu, h1, h2, h3, h4⟩ := own_nu p1 p2
  by_cases hn : n = 0
  · obtain ⟨Tr1, hr1, Xr1, er1, Er1, Ar1, Dr1, -, str1⟩ := newO X0 hx hZ hown (hw _ (List.mem_of_getElem? (i := 1) rfl)) (hw _ (List.mem_of_getElem? (i := 2) rfl)) (hw _ (List.mem_of_getElem? (i := 3) rfl)) e0 (g := (mkF m 20 #[.val (.long p0), .second, .val (.long p1), .second, .val (.long p2), .second, .val (.long n), .second, .val (.long u), .second, .unset, .unset, .unset, .unset, .unset] [])) rfl (hb hby at_20) (by decide) (by decide)
    obtain ⟨br1, gr1⟩ : ∃ z, z = h0.size := ⟨_, rfl⟩
    rw [← gr1] at Ar1 Dr1 str1
    have F_obvious : Fld Z hr1 br1 "com/example/refinory/refinory/status/Tally" "obvious" "J" (.long (0 : Int64)) := Dr1 (Or.inr (hw _ (List.mem_of_getElem? (i := 16) rfl))) (ty := .long) (by decide)
    have F_nonObvious : Fld Z hr1 br1 "com/example/refinory/refinory/status/Tally" "nonObvious" "J" (.long (0 : Int64)) := Dr1 (Or.inr (hw _ (List.mem_of_getElem? (i := 18) rfl))) (ty := .long) (by decide)
    have F_unproved : Fld Z hr1 br1 "com/example/refinory/refinory/status/Tally" "unproved" "J" (.long (0 : Int64)) := Dr1 (Or.inr (hw _ (List.mem_of_getElem? (i := 20) rfl))) (ty := .long) (by decide)
    have g_br1 : n0 ≤ br1 := Nat.le_trans Z0 (Nat.le_of_eq gr1.symm)
    have Zr1 : n0 ≤ hr1.size := Nat.le_trans Z0 Er1.1
    obtain ⟨_, _, ⟨Tr2, Lr2, kr2, nr2⟩, -, Xr2, ⟨Lcr2, hQr2, lr2, yr2, zr2⟩, str2⟩ := Xr1.specialBack hx (y := (⟨"com/example/refinory/refinory/status/Tally", "<init>", "(JJJ)V"⟩ : MethodName)) rfl hown (mvT hZ (hw _ (List.mem_of_getElem? (i := 4) rfl))) (mvT hZ (hw _ (List.mem_of_getElem? (i := 5) rfl))) (mvT hZ (hw _ (List.mem_of_getElem? (i := 6) rfl))) (by decide) (backOf (W := 1) (rm_tally l Z a0 hw [] br1 p0 n u  hr1 n0 Zr1 Ar1 g_br1 F_obvious F_nonObvious F_unproved) hZ (hw _ (List.mem_of_getElem? (i := 6) rfl)) (hw _ (List.mem_of_getElem? (i := 3) rfl)) (by decide) (by decide)) (g := (mkF m 29 #[.val (.long p0), .second, .val (.long p1), .second, .val (.long p2), .second, .val (.long n), .second, .val (.long u), .second, .unset, .unset, .unset, .unset, .unset] [(.long u), (.long n), (.long p0), (.ref br1), (.ref br1)])) rfl (by rw [hml]; rfl) (Steps.refl _) (a := br1) (argsL := [(.long p0), (.long n), (.long u)]) (rest := [(.ref br1)]) (lenOf pd_law_0 rfl) rfl (by show 2 * 0 + _ ≤ _; exact Nat.le_of_eq rfl) (hb hby at_29) (fun _ _ => ⟨rfl, er1, (by decide : 1 + 0 ≤ _), (by decide : 3 + 0 ≤ _)⟩)
    dsimp only [Pt.U, Pt.locs, Pt.cells, Pt.slots] at Xr2 lr2 yr2 zr2 str2 hQr2
    subst lr2 yr2 zr2
    obtain ⟨rfl, Nr2q, Kr2, Exr2, Fnr2, Fur2⟩ := hQr2
    have Nr2 := Fr.app N0 Nr2q
    have Zr2 : n0 ≤ Tr2.heap.size := Nat.le_trans Zr1 Kr2.1
    obtain ⟨cqr3, kqr3, qar3, qbr3, qcr3⟩ := isOf hZ rfl Exr2
    obtain ⟨_, _, ⟨Tr3, Lr3, kr3, nr3⟩, -, Xr3, ⟨Lcr3, hQr3, lr3, yr3, zr3⟩, str3⟩ := Xr2.virtualBack hx (y := (⟨"com/example/refinory/refinory/status/Tally", "percentProved", "()J"⟩ : MethodName)) (z := (⟨"com/example/refinory/refinory/status/Tally", "percentProved", "()J"⟩ : MethodName)) hown (mvT hZ (hw _ (List.mem_of_getElem? (i := 21) rfl))) (mvT hZ (hw _ (List.mem_of_getElem? (i := 22) rfl))) (notFace_of_selects (args := #[]) (mvT hZ (hw _ (List.mem_of_getElem? (i := 24) rfl)))) (mvT hZ (hw _ (List.mem_of_getElem? (i := 24) rfl))) (mvT hZ (hw _ (List.mem_of_getElem? (i := 23) rfl))) (by decide) (backOf (W := 0) (rm_pct l Z a0 hw [] br1 n u Tr2.heap n0 Zr2 Fnr2 Fur2) hZ (hw _ (List.mem_of_getElem? (i := 25) rfl)) (hw _ (List.mem_of_getElem? (i := 3) rfl)) (by decide) (by decide)) qar3 qcr3 (g := (mkF m 36 #[.val (.long p0), .second, .val (.long p1), .second, .val (.long p2), .second, .val (.long n), .second, .val (.long u), .second, .val (.ref br1), .unset, .unset, .unset, .unset] [(.ref br1)])) rfl (by rw [hml]; rfl) (Steps.refl _) (argsL := []) (rest := []) (lenOf pd_law_1 rfl) rfl (by show 2 * 0 + _ ≤ _; exact Nat.le_of_eq rfl) (hb hby at_36) (fun _ _ => ⟨rfl, rfl, (by decide : 1 + 0 ≤ _), (by decide : 3 + 0 ≤ _)⟩)
    dsimp only [Pt.U, Pt.locs, Pt.cells, Pt.slots] at Xr3 lr3 yr3 zr3 str3 hQr3
    subst lr3 yr3 zr3
    obtain ⟨rfl, Nr3q, er3⟩ := hQr3
    have Nr3 := Fr.app Nr2 Nr3q
    obtain ⟨fs, hr, hrun, hended, hW, hsame⟩ := Xr3.leave (v := some (.int (1 : Int32))) (fun h => by rw [Bd.returns] at h; cases h)
    refine ⟨_, _, pre0 _ ?_, hrun, hended, _, _, rfl, ?_, ⟨_, rfl⟩, hW, hsame.mono (by decide) (by decide)⟩
    · show Steps p.tables e below (s₁.setTop (mkF m 0 #[.val (.long p0), .second, .val (.long p1), .second, .val (.long p2), .second, .unset, .unset, .unset, .unset, .unset, .unset, .unset, .unset, .unset] [])) _
      refine XS.lloadN X0.here hx rfl (hb hby at_0) rfl ?_
      show Steps p.tables e below (s₁.setTop (mkF m 1 #[.val (.long p0), .second, .val (.long p1), .second, .val (.long p2), .second, .unset, .unset, .unset, .unset, .unset, .unset, .unset, .unset, .unset] [(.long p1)])) _
      refine X0.ldc2Long hx hown (mvT hZ (hw _ (List.mem_of_getElem? (i := 0) rfl))) (g := (mkF m 1 #[.val (.long p0), .second, .val (.long p1), .second, .val (.long p2), .second, .unset, .unset, .unset, .unset, .unset, .unset, .unset, .unset, .unset] [(.long p1)])) rfl (hb hby at_1) _ ?_
      show Steps p.tables e below (s₁.setTop (mkF m 4 #[.val (.long p0), .second, .val (.long p1), .second, .val (.long p2), .second, .unset, .unset, .unset, .unset, .unset, .unset, .unset, .unset, .unset] [(.long (72057594037927935 : Int64)), (.long p1)])) _
      refine XS.land X0.here hx rfl (hb hby at_4) rfl ?_
      show Steps p.tables e below (s₁.setTop (mkF m 5 #[.val (.long p0), .second, .val (.long p1), .second, .val (.long p2), .second, .unset, .unset, .unset, .unset, .unset, .unset, .unset, .unset, .unset] [(.long (p1 &&& (72057594037927935 : Int64)))])) _
      refine XS.lstore X0.here hx rfl (hb hby at_5) rfl (l' := #[.val (.long p0), .second, .val (.long p1), .second, .val (.long p2), .second, .val (.long (p1 &&& (72057594037927935 : Int64))), .second, .unset, .unset, .unset, .unset, .unset, .unset, .unset]) rfl ?_
      show Steps p.tables e below (s₁.setTop (mkF m 7 #[.val (.long p0), .second, .val (.long p1), .second, .val (.long p2), .second, .val (.long (p1 &&& (72057594037927935 : Int64))), .second, .unset, .unset, .unset, .unset, .unset, .unset, .unset] [])) _
      refine XS.lload X0.here hx rfl (hb hby at_7) rfl ?_
      show Steps p.tables e below (s₁.setTop (mkF m 9 #[.val (.long p0), .second, .val (.long p1), .second, .val (.long p2), .second, .val (.long (p1 &&& (72057594037927935 : Int64))), .second, .unset, .unset, .unset, .unset, .unset, .unset, .unset] [(.long p2)])) _
      refine X0.ldc2Long hx hown (mvT hZ (hw _ (List.mem_of_getElem? (i := 0) rfl))) (g := (mkF m 9 #[.val (.long p0), .second, .val (.long p1), .second, .val (.long p2), .second, .val (.long (p1 &&& (72057594037927935 : Int64))), .second, .unset, .unset, .unset, .unset, .unset, .unset, .unset] [(.long p2)])) rfl (hb hby at_9) _ ?_
      show Steps p.tables e below (s₁.setTop (mkF m 12 #[.val (.long p0), .second, .val (.long p1), .second, .val (.long p2), .second, .val (.long (p1 &&& (72057594037927935 : Int64))), .second, .unset, .unset, .unset, .unset, .unset, .unset, .unset] [(.long (72057594037927935 : Int64)), (.long p2)])) _
      refine XS.land X0.here hx rfl (hb hby at_12) rfl ?_
      show Steps p.tables e below (s₁.setTop (mkF m 13 #[.val (.long p0), .second, .val (.long p1), .second, .val (.long p2), .second, .val (.long (p1 &&& (72057594037927935 : Int64))), .second, .unset, .unset, .unset, .unset, .unset, .unset, .unset] [(.long (p2 &&& (72057594037927935 : Int64)))])) _
      refine XS.lload X0.here hx rfl (hb hby at_13) rfl ?_
      show Steps p.tables e below (s₁.setTop (mkF m 15 #[.val (.long p0), .second, .val (.long p1), .second, .val (.long p2), .second, .val (.long (p1 &&& (72057594037927935 : Int64))), .second, .unset, .unset, .unset, .unset, .unset, .unset, .unset] [(.long (p1 &&& (72057594037927935 : Int64))), (.long (p2 &&& (72057594037927935 : Int64)))])) _
      refine XS.lconst X0.here hx rfl (hb hby at_15) ?_
      show Steps p.tables e below (s₁.setTop (mkF m 16 #[.val (.long p0), .second, .val (.long p1), .second, .val (.long p2), .second, .val (.long (p1 &&& (72057594037927935 : Int64))), .second, .unset, .unset, .unset, .unset, .unset, .unset, .unset] [(.long (1 : Int64)), (.long (p1 &&& (72057594037927935 : Int64))), (.long (p2 &&& (72057594037927935 : Int64)))])) _
      refine XS.ladd X0.here hx rfl (hb hby at_16) rfl ?_
      show Steps p.tables e below (s₁.setTop (mkF m 17 #[.val (.long p0), .second, .val (.long p1), .second, .val (.long p2), .second, .val (.long (p1 &&& (72057594037927935 : Int64))), .second, .unset, .unset, .unset, .unset, .unset, .unset, .unset] [(.long ((p1 &&& (72057594037927935 : Int64)) + (1 : Int64))), (.long (p2 &&& (72057594037927935 : Int64)))])) _
      refine XS.lrem X0.here hx rfl (hb hby at_17) rfl (by rw [en]; exact hnz) ?_
      rw [en, eu]
      show Steps p.tables e below (s₁.setTop (mkF m 18 #[.val (.long p0), .second, .val (.long p1), .second, .val (.long p2), .second, .val (.long n), .second, .unset, .unset, .unset, .unset, .unset, .unset, .unset] [(.long u)])) _
      refine XS.lstore X0.here hx rfl (hb hby at_18) rfl (l' := #[.val (.long p0), .second, .val (.long p1), .second, .val (.long p2), .second, .val (.long n), .second, .val (.long u), .second, .unset, .unset, .unset, .unset, .unset]) rfl ?_
      show Steps p.tables e below (s₁.setTop (mkF m 20 #[.val (.long p0), .second, .val (.long p1), .second, .val (.long p2), .second, .val (.long n), .second, .val (.long u), .second, .unset, .unset, .unset, .unset, .unset] [])) _
      refine str1 _ ?_
      show Steps p.tables e below (Tr1.setTop (mkF m 23 #[.val (.long p0), .second, .val (.long p1), .second, .val (.long p2), .second, .val (.long n), .second, .val (.long u), .second, .unset, .unset, .unset, .unset, .unset] [(.ref br1)])) _
      refine XS.dup Xr1.here hx rfl (hb hby at_23) rfl rfl ?_
      show Steps p.tables e below (Tr1.setTop (mkF m 24 #[.val (.long p0), .second, .val (.long p1), .second, .val (.long p2), .second, .val (.long n), .second, .val (.long u), .second, .unset, .unset, .unset, .unset, .unset] [(.ref br1), (.ref br1)])) _
      refine XS.lloadN Xr1.here hx rfl (hb hby at_24) rfl ?_
      show Steps p.tables e below (Tr1.setTop (mkF m 25 #[.val (.long p0), .second, .val (.long p1), .second, .val (.long p2), .second, .val (.long n), .second, .val (.long u), .second, .unset, .unset, .unset, .unset, .unset] [(.long p0), (.ref br1), (.ref br1)])) _
      refine XS.lload Xr1.here hx rfl (hb hby at_25) rfl ?_
      show Steps p.tables e below (Tr1.setTop (mkF m 27 #[.val (.long p0), .second, .val (.long p1), .second, .val (.long p2), .second, .val (.long n), .second, .val (.long u), .second, .unset, .unset, .unset, .unset, .unset] [(.long n), (.long p0), (.ref br1), (.ref br1)])) _
      refine XS.lload Xr1.here hx rfl (hb hby at_27) rfl ?_
      show Steps p.tables e below (Tr1.setTop (mkF m 29 #[.val (.long p0), .second, .val (.long p1), .second, .val (.long p2), .second, .val (.long n), .second, .val (.long u), .second, .unset, .unset, .unset, .unset, .unset] [(.long u), (.long n), (.long p0), (.ref br1), (.ref br1)])) _
      refine str2.trans ?_
      show Steps p.tables e below (Tr2.setTop (mkF m 32 #[.val (.long p0), .second, .val (.long p1), .second, .val (.long p2), .second, .val (.long n), .second, .val (.long u), .second, .unset, .unset, .unset, .unset, .unset] [(.ref br1)])) _
      refine XS.astore Xr2.here hx rfl (hb hby at_32) rfl rfl (l' := #[.val (.long p0), .second, .val (.long p1), .second, .val (.long p2), .second, .val (.long n), .second, .val (.long u), .second, .val (.ref br1), .unset, .unset, .unset, .unset]) rfl ?_
      show Steps p.tables e below (Tr2.setTop (mkF m 34 #[.val (.long p0), .second, .val (.long p1), .second, .val (.long p2), .second, .val (.long n), .second, .val (.long u), .second, .val (.ref br1), .unset, .unset, .unset, .unset] [])) _
      refine XS.aload Xr2.here hx rfl (hb hby at_34) rfl rfl ?_
      show Steps p.tables e below (Tr2.setTop (mkF m 36 #[.val (.long p0), .second, .val (.long p1), .second, .val (.long p2), .second, .val (.long n), .second, .val (.long u), .second, .val (.ref br1), .unset, .unset, .unset, .unset] [(.ref br1)])) _
      refine str3.trans ?_
      show Steps p.tables e below (Tr3.setTop (mkF m 39 #[.val (.long p0), .second, .val (.long p1), .second, .val (.long p2), .second, .val (.long n), .second, .val (.long u), .second, .val (.ref br1), .unset, .unset, .unset, .unset] [(.long (f_pct n u))])) _
      refine XS.lstore Xr3.here hx rfl (hb hby at_39) rfl (l' := #[.val (.long p0), .second, .val (.long p1), .second, .val (.long p2), .second, .val (.long n), .second, .val (.long u), .second, .val (.ref br1), .val (.long (f_pct n u)), .second, .unset, .unset]) rfl ?_
      show Steps p.tables e below (Tr3.setTop (mkF m 41 #[.val (.long p0), .second, .val (.long p1), .second, .val (.long p2), .second, .val (.long n), .second, .val (.long u), .second, .val (.ref br1), .val (.long (f_pct n u)), .second, .unset, .unset] [])) _
      refine XS.lload Xr3.here hx rfl (hb hby at_41) rfl ?_
      show Steps p.tables e below (Tr3.setTop (mkF m 43 #[.val (.long p0), .second, .val (.long p1), .second, .val (.long p2), .second, .val (.long n), .second, .val (.long u), .second, .val (.ref br1), .val (.long (f_pct n u)), .second, .unset, .unset] [(.long n)])) _
      refine XS.lconst Xr3.here hx rfl (hb hby at_43) ?_
      show Steps p.tables e below (Tr3.setTop (mkF m 44 #[.val (.long p0), .second, .val (.long p1), .second, .val (.long p2), .second, .val (.long n), .second, .val (.long u), .second, .val (.ref br1), .val (.long (f_pct n u)), .second, .unset, .unset] [(.long (0 : Int64)), (.long n)])) _
      refine XS.lcmp Xr3.here hx rfl (hb hby at_44) rfl ?_
      show Steps p.tables e below (Tr3.setTop (mkF m 45 #[.val (.long p0), .second, .val (.long p1), .second, .val (.long p2), .second, .val (.long n), .second, .val (.long u), .second, .val (.ref br1), .val (.long (f_pct n u)), .second, .unset, .unset] [(.int (lcmpW n (0 : Int64)))])) _
      refine XS.ifNo Xr3.here hx rfl (hb hby at_45) rfl ((if0 _ _).trans (teq ((own_cmp_eq n 0).mpr hn)).2) ?_
      show Steps p.tables e below (Tr3.setTop (mkF m 48 #[.val (.long p0), .second, .val (.long p1), .second, .val (.long p2), .second, .val (.long n), .second, .val (.long u), .second, .val (.ref br1), .val (.long (f_pct n u)), .second, .unset, .unset] [])) _
      refine XS.lload Xr3.here hx rfl (hb hby at_48) rfl ?_
      show Steps p.tables e below (Tr3.setTop (mkF m 50 #[.val (.long p0), .second, .val (.long p1), .second, .val (.long p2), .second, .val (.long n), .second, .val (.long u), .second, .val (.ref br1), .val (.long (f_pct n u)), .second, .unset, .unset] [(.long (f_pct n u))])) _
      refine Xr3.ldc2Long hx hown (mvT hZ (hw _ (List.mem_of_getElem? (i := 27) rfl))) (g := (mkF m 50 #[.val (.long p0), .second, .val (.long p1), .second, .val (.long p2), .second, .val (.long n), .second, .val (.long u), .second, .val (.ref br1), .val (.long (f_pct n u)), .second, .unset, .unset] [(.long (f_pct n u))])) rfl (hb hby at_50) _ ?_
      show Steps p.tables e below (Tr3.setTop (mkF m 53 #[.val (.long p0), .second, .val (.long p1), .second, .val (.long p2), .second, .val (.long n), .second, .val (.long u), .second, .val (.ref br1), .val (.long (f_pct n u)), .second, .unset, .unset] [(.long (100 : Int64)), (.long (f_pct n u))])) _
      refine XS.lcmp Xr3.here hx rfl (hb hby at_53) rfl ?_
      show Steps p.tables e below (Tr3.setTop (mkF m 54 #[.val (.long p0), .second, .val (.long p1), .second, .val (.long p2), .second, .val (.long n), .second, .val (.long u), .second, .val (.ref br1), .val (.long (f_pct n u)), .second, .unset, .unset] [(.int (lcmpW (f_pct n u) (100 : Int64)))])) _
      refine XS.ifNo Xr3.here hx rfl (hb hby at_54) rfl ((if0 _ _).trans (teq ((own_cmp_eq (f_pct n u) 100).mpr (by unfold f_pct; rw [if_pos hn]))).2) ?_
      show Steps p.tables e below (Tr3.setTop (mkF m 57 #[.val (.long p0), .second, .val (.long p1), .second, .val (.long p2), .second, .val (.long n), .second, .val (.long u), .second, .val (.ref br1), .val (.long (f_pct n u)), .second, .unset, .unset] [])) _
      refine XS.iconst Xr3.here hx rfl (hb hby at_57) ?_
      show Steps p.tables e below (Tr3.setTop (mkF m 58 #[.val (.long p0), .second, .val (.long p1), .second, .val (.long p2), .second, .val (.long n), .second, .val (.long u), .second, .val (.ref br1), .val (.long (f_pct n u)), .second, .unset, .unset] [(.int (1 : Int32))])) _
      refine XS.goto Xr3.here hx rfl (pc0 := 58) (pc' := 62) rfl (hb hby at_58) (by decide) (by decide) ?_
      show Steps p.tables e below (Tr3.setTop (mkF m 62 #[.val (.long p0), .second, .val (.long p1), .second, .val (.long p2), .second, .val (.long n), .second, .val (.long u), .second, .val (.ref br1), .val (.long (f_pct n u)), .second, .unset, .unset] [(.int (1 : Int32))])) _
      exact retN Xr3 hx (t := .boolean) Bd.returns (by simp) (hb hby at_62) hr
    · show Q_law Z p0 p1 p2 h0 n0 _ Tr3.heap _
      rw [er3]
      exact ⟨rfl, Nr3⟩
  · obtain ⟨P1, P2, P3, P4⟩ := own_pct n u hn h1 h2 h3 h4
    obtain ⟨Tr1, hr1, Xr1, er1, Er1, Ar1, Dr1, -, str1⟩ := newO X0 hx hZ hown (hw _ (List.mem_of_getElem? (i := 1) rfl)) (hw _ (List.mem_of_getElem? (i := 2) rfl)) (hw _ (List.mem_of_getElem? (i := 3) rfl)) e0 (g := (mkF m 20 #[.val (.long p0), .second, .val (.long p1), .second, .val (.long p2), .second, .val (.long n), .second, .val (.long u), .second, .unset, .unset, .unset, .unset, .unset] [])) rfl (hb hby at_20) (by decide) (by decide)
    obtain ⟨br1, gr1⟩ : ∃ z, z = h0.size := ⟨_, rfl⟩
    rw [← gr1] at Ar1 Dr1 str1
    have F_obvious : Fld Z hr1 br1 "com/example/refinory/refinory/status/Tally" "obvious" "J" (.long (0 : Int64)) := Dr1 (Or.inr (hw _ (List.mem_of_getElem? (i := 16) rfl))) (ty := .long) (by decide)
    have F_nonObvious : Fld Z hr1 br1 "com/example/refinory/refinory/status/Tally" "nonObvious" "J" (.long (0 : Int64)) := Dr1 (Or.inr (hw _ (List.mem_of_getElem? (i := 18) rfl))) (ty := .long) (by decide)
    have F_unproved : Fld Z hr1 br1 "com/example/refinory/refinory/status/Tally" "unproved" "J" (.long (0 : Int64)) := Dr1 (Or.inr (hw _ (List.mem_of_getElem? (i := 20) rfl))) (ty := .long) (by decide)
    have g_br1 : n0 ≤ br1 := Nat.le_trans Z0 (Nat.le_of_eq gr1.symm)
    have Zr1 : n0 ≤ hr1.size := Nat.le_trans Z0 Er1.1
    obtain ⟨_, _, ⟨Tr2, Lr2, kr2, nr2⟩, -, Xr2, ⟨Lcr2, hQr2, lr2, yr2, zr2⟩, str2⟩ := Xr1.specialBack hx (y := (⟨"com/example/refinory/refinory/status/Tally", "<init>", "(JJJ)V"⟩ : MethodName)) rfl hown (mvT hZ (hw _ (List.mem_of_getElem? (i := 4) rfl))) (mvT hZ (hw _ (List.mem_of_getElem? (i := 5) rfl))) (mvT hZ (hw _ (List.mem_of_getElem? (i := 6) rfl))) (by decide) (backOf (W := 1) (rm_tally l Z a0 hw [] br1 p0 n u  hr1 n0 Zr1 Ar1 g_br1 F_obvious F_nonObvious F_unproved) hZ (hw _ (List.mem_of_getElem? (i := 6) rfl)) (hw _ (List.mem_of_getElem? (i := 3) rfl)) (by decide) (by decide)) (g := (mkF m 29 #[.val (.long p0), .second, .val (.long p1), .second, .val (.long p2), .second, .val (.long n), .second, .val (.long u), .second, .unset, .unset, .unset, .unset, .unset] [(.long u), (.long n), (.long p0), (.ref br1), (.ref br1)])) rfl (by rw [hml]; rfl) (Steps.refl _) (a := br1) (argsL := [(.long p0), (.long n), (.long u)]) (rest := [(.ref br1)]) (lenOf pd_law_0 rfl) rfl (by show 2 * 0 + _ ≤ _; exact Nat.le_of_eq rfl) (hb hby at_29) (fun _ _ => ⟨rfl, er1, (by decide : 1 + 0 ≤ _), (by decide : 3 + 0 ≤ _)⟩)
    dsimp only [Pt.U, Pt.locs, Pt.cells, Pt.slots] at Xr2 lr2 yr2 zr2 str2 hQr2
    subst lr2 yr2 zr2
    obtain ⟨rfl, Nr2q, Kr2, Exr2, Fnr2, Fur2⟩ := hQr2
    have Nr2 := Fr.app N0 Nr2q
    have Zr2 : n0 ≤ Tr2.heap.size := Nat.le_trans Zr1 Kr2.1
    obtain ⟨cqr3, kqr3, qar3, qbr3, qcr3⟩ := isOf hZ rfl Exr2
    obtain ⟨_, _, ⟨Tr3, Lr3, kr3, nr3⟩, -, Xr3, ⟨Lcr3, hQr3, lr3, yr3, zr3⟩, str3⟩ := Xr2.virtualBack hx (y := (⟨"com/example/refinory/refinory/status/Tally", "percentProved", "()J"⟩ : MethodName)) (z := (⟨"com/example/refinory/refinory/status/Tally", "percentProved", "()J"⟩ : MethodName)) hown (mvT hZ (hw _ (List.mem_of_getElem? (i := 21) rfl))) (mvT hZ (hw _ (List.mem_of_getElem? (i := 22) rfl))) (notFace_of_selects (args := #[]) (mvT hZ (hw _ (List.mem_of_getElem? (i := 24) rfl)))) (mvT hZ (hw _ (List.mem_of_getElem? (i := 24) rfl))) (mvT hZ (hw _ (List.mem_of_getElem? (i := 23) rfl))) (by decide) (backOf (W := 0) (rm_pct l Z a0 hw [] br1 n u Tr2.heap n0 Zr2 Fnr2 Fur2) hZ (hw _ (List.mem_of_getElem? (i := 25) rfl)) (hw _ (List.mem_of_getElem? (i := 3) rfl)) (by decide) (by decide)) qar3 qcr3 (g := (mkF m 36 #[.val (.long p0), .second, .val (.long p1), .second, .val (.long p2), .second, .val (.long n), .second, .val (.long u), .second, .val (.ref br1), .unset, .unset, .unset, .unset] [(.ref br1)])) rfl (by rw [hml]; rfl) (Steps.refl _) (argsL := []) (rest := []) (lenOf pd_law_1 rfl) rfl (by show 2 * 0 + _ ≤ _; exact Nat.le_of_eq rfl) (hb hby at_36) (fun _ _ => ⟨rfl, rfl, (by decide : 1 + 0 ≤ _), (by decide : 3 + 0 ≤ _)⟩)
    dsimp only [Pt.U, Pt.locs, Pt.cells, Pt.slots] at Xr3 lr3 yr3 zr3 str3 hQr3
    subst lr3 yr3 zr3
    obtain ⟨rfl, Nr3q, er3⟩ := hQr3
    have Nr3 := Fr.app Nr2 Nr3q
    obtain ⟨fs, hr, hrun, hended, hW, hsame⟩ := Xr3.leave (v := some (.int (1 : Int32))) (fun h => by rw [Bd.returns] at h; cases h)
    refine ⟨_, _, pre0 _ ?_, hrun, hended, _, _, rfl, ?_, ⟨_, rfl⟩, hW, hsame.mono (by decide) (by decide)⟩
    · show Steps p.tables e below (s₁.setTop (mkF m 0 #[.val (.long p0), .second, .val (.long p1), .second, .val (.long p2), .second, .unset, .unset, .unset, .unset, .unset, .unset, .unset, .unset, .unset] [])) _
      refine XS.lloadN X0.here hx rfl (hb hby at_0) rfl ?_
      show Steps p.tables e below (s₁.setTop (mkF m 1 #[.val (.long p0), .second, .val (.long p1), .second, .val (.long p2), .second, .unset, .unset, .unset, .unset, .unset, .unset, .unset, .unset, .unset] [(.long p1)])) _
      refine X0.ldc2Long hx hown (mvT hZ (hw _ (List.mem_of_getElem? (i := 0) rfl))) (g := (mkF m 1 #[.val (.long p0), .second, .val (.long p1), .second, .val (.long p2), .second, .unset, .unset, .unset, .unset, .unset, .unset, .unset, .unset, .unset] [(.long p1)])) rfl (hb hby at_1) _ ?_
      show Steps p.tables e below (s₁.setTop (mkF m 4 #[.val (.long p0), .second, .val (.long p1), .second, .val (.long p2), .second, .unset, .unset, .unset, .unset, .unset, .unset, .unset, .unset, .unset] [(.long (72057594037927935 : Int64)), (.long p1)])) _
      refine XS.land X0.here hx rfl (hb hby at_4) rfl ?_
      show Steps p.tables e below (s₁.setTop (mkF m 5 #[.val (.long p0), .second, .val (.long p1), .second, .val (.long p2), .second, .unset, .unset, .unset, .unset, .unset, .unset, .unset, .unset, .unset] [(.long (p1 &&& (72057594037927935 : Int64)))])) _
      refine XS.lstore X0.here hx rfl (hb hby at_5) rfl (l' := #[.val (.long p0), .second, .val (.long p1), .second, .val (.long p2), .second, .val (.long (p1 &&& (72057594037927935 : Int64))), .second, .unset, .unset, .unset, .unset, .unset, .unset, .unset]) rfl ?_
      show Steps p.tables e below (s₁.setTop (mkF m 7 #[.val (.long p0), .second, .val (.long p1), .second, .val (.long p2), .second, .val (.long (p1 &&& (72057594037927935 : Int64))), .second, .unset, .unset, .unset, .unset, .unset, .unset, .unset] [])) _
      refine XS.lload X0.here hx rfl (hb hby at_7) rfl ?_
      show Steps p.tables e below (s₁.setTop (mkF m 9 #[.val (.long p0), .second, .val (.long p1), .second, .val (.long p2), .second, .val (.long (p1 &&& (72057594037927935 : Int64))), .second, .unset, .unset, .unset, .unset, .unset, .unset, .unset] [(.long p2)])) _
      refine X0.ldc2Long hx hown (mvT hZ (hw _ (List.mem_of_getElem? (i := 0) rfl))) (g := (mkF m 9 #[.val (.long p0), .second, .val (.long p1), .second, .val (.long p2), .second, .val (.long (p1 &&& (72057594037927935 : Int64))), .second, .unset, .unset, .unset, .unset, .unset, .unset, .unset] [(.long p2)])) rfl (hb hby at_9) _ ?_
      show Steps p.tables e below (s₁.setTop (mkF m 12 #[.val (.long p0), .second, .val (.long p1), .second, .val (.long p2), .second, .val (.long (p1 &&& (72057594037927935 : Int64))), .second, .unset, .unset, .unset, .unset, .unset, .unset, .unset] [(.long (72057594037927935 : Int64)), (.long p2)])) _
      refine XS.land X0.here hx rfl (hb hby at_12) rfl ?_
      show Steps p.tables e below (s₁.setTop (mkF m 13 #[.val (.long p0), .second, .val (.long p1), .second, .val (.long p2), .second, .val (.long (p1 &&& (72057594037927935 : Int64))), .second, .unset, .unset, .unset, .unset, .unset, .unset, .unset] [(.long (p2 &&& (72057594037927935 : Int64)))])) _
      refine XS.lload X0.here hx rfl (hb hby at_13) rfl ?_
      show Steps p.tables e below (s₁.setTop (mkF m 15 #[.val (.long p0), .second, .val (.long p1), .second, .val (.long p2), .second, .val (.long (p1 &&& (72057594037927935 : Int64))), .second, .unset, .unset, .unset, .unset, .unset, .unset, .unset] [(.long (p1 &&& (72057594037927935 : Int64))), (.long (p2 &&& (72057594037927935 : Int64)))])) _
      refine XS.lconst X0.here hx rfl (hb hby at_15) ?_
      show Steps p.tables e below (s₁.setTop (mkF m 16 #[.val (.long p0), .second, .val (.long p1), .second, .val (.long p2), .second, .val (.long (p1 &&& (72057594037927935 : Int64))), .second, .unset, .unset, .unset, .unset, .unset, .unset, .unset] [(.long (1 : Int64)), (.long (p1 &&& (72057594037927935 : Int64))), (.long (p2 &&& (72057594037927935 : Int64)))])) _
      refine XS.ladd X0.here hx rfl (hb hby at_16) rfl ?_
      show Steps p.tables e below (s₁.setTop (mkF m 17 #[.val (.long p0), .second, .val (.long p1), .second, .val (.long p2), .second, .val (.long (p1 &&& (72057594037927935 : Int64))), .second, .unset, .unset, .unset, .unset, .unset, .unset, .unset] [(.long ((p1 &&& (72057594037927935 : Int64)) + (1 : Int64))), (.long (p2 &&& (72057594037927935 : Int64)))])) _
      refine XS.lrem X0.here hx rfl (hb hby at_17) rfl (by rw [en]; exact hnz) ?_
      rw [en, eu]
      show Steps p.tables e below (s₁.setTop (mkF m 18 #[.val (.long p0), .second, .val (.long p1), .second, .val (.long p2), .second, .val (.long n), .second, .unset, .unset, .unset, .unset, .unset, .unset, .unset] [(.long u)])) _
      refine XS.lstore X0.here hx rfl (hb hby at_18) rfl (l' := #[.val (.long p0), .second, .val (.long p1), .second, .val (.long p2), .second, .val (.long n), .second, .val (.long u), .second, .unset, .unset, .unset, .unset, .unset]) rfl ?_
      show Steps p.tables e below (s₁.setTop (mkF m 20 #[.val (.long p0), .second, .val (.long p1), .second, .val (.long p2), .second, .val (.long n), .second, .val (.long u), .second, .unset, .unset, .unset, .unset, .unset] [])) _
      refine str1 _ ?_
      show Steps p.tables e below (Tr1.setTop (mkF m 23 #[.val (.long p0), .second, .val (.long p1), .second, .val (.long p2), .second, .val (.long n), .second, .val (.long u), .second, .unset, .unset, .unset, .unset, .unset] [(.ref br1)])) _
      refine XS.dup Xr1.here hx rfl (hb hby at_23) rfl rfl ?_
      show Steps p.tables e below (Tr1.setTop (mkF m 24 #[.val (.long p0), .second, .val (.long p1), .second, .val (.long p2), .second, .val (.long n), .second, .val (.long u), .second, .unset, .unset, .unset, .unset, .unset] [(.ref br1), (.ref br1)])) _
      refine XS.lloadN Xr1.here hx rfl (hb hby at_24) rfl ?_
      show Steps p.tables e below (Tr1.setTop (mkF m 25 #[.val (.long p0), .second, .val (.long p1), .second, .val (.long p2), .second, .val (.long n), .second, .val (.long u), .second, .unset, .unset, .unset, .unset, .unset] [(.long p0), (.ref br1), (.ref br1)])) _
      refine XS.lload Xr1.here hx rfl (hb hby at_25) rfl ?_
      show Steps p.tables e below (Tr1.setTop (mkF m 27 #[.val (.long p0), .second, .val (.long p1), .second, .val (.long p2), .second, .val (.long n), .second, .val (.long u), .second, .unset, .unset, .unset, .unset, .unset] [(.long n), (.long p0), (.ref br1), (.ref br1)])) _
      refine XS.lload Xr1.here hx rfl (hb hby at_27) rfl ?_
      show Steps p.tables e below (Tr1.setTop (mkF m 29 #[.val (.long p0), .second, .val (.long p1), .second, .val (.long p2), .second, .val (.long n), .second, .val (.long u), .second, .unset, .unset, .unset, .unset, .unset] [(.long u), (.long n), (.long p0), (.ref br1), (.ref br1)])) _
      refine str2.trans ?_
      show Steps p.tables e below (Tr2.setTop (mkF m 32 #[.val (.long p0), .second, .val (.long p1), .second, .val (.long p2), .second, .val (.long n), .second, .val (.long u), .second, .unset, .unset, .unset, .unset, .unset] [(.ref br1)])) _
      refine XS.astore Xr2.here hx rfl (hb hby at_32) rfl rfl (l' := #[.val (.long p0), .second, .val (.long p1), .second, .val (.long p2), .second, .val (.long n), .second, .val (.long u), .second, .val (.ref br1), .unset, .unset, .unset, .unset]) rfl ?_
      show Steps p.tables e below (Tr2.setTop (mkF m 34 #[.val (.long p0), .second, .val (.long p1), .second, .val (.long p2), .second, .val (.long n), .second, .val (.long u), .second, .val (.ref br1), .unset, .unset, .unset, .unset] [])) _
      refine XS.aload Xr2.here hx rfl (hb hby at_34) rfl rfl ?_
      show Steps p.tables e below (Tr2.setTop (mkF m 36 #[.val (.long p0), .second, .val (.long p1), .second, .val (.long p2), .second, .val (.long n), .second, .val (.long u), .second, .val (.ref br1), .unset, .unset, .unset, .unset] [(.ref br1)])) _
      refine str3.trans ?_
      show Steps p.tables e below (Tr3.setTop (mkF m 39 #[.val (.long p0), .second, .val (.long p1), .second, .val (.long p2), .second, .val (.long n), .second, .val (.long u), .second, .val (.ref br1), .unset, .unset, .unset, .unset] [(.long (f_pct n u))])) _
      refine XS.lstore Xr3.here hx rfl (hb hby at_39) rfl (l' := #[.val (.long p0), .second, .val (.long p1), .second, .val (.long p2), .second, .val (.long n), .second, .val (.long u), .second, .val (.ref br1), .val (.long (f_pct n u)), .second, .unset, .unset]) rfl ?_
      show Steps p.tables e below (Tr3.setTop (mkF m 41 #[.val (.long p0), .second, .val (.long p1), .second, .val (.long p2), .second, .val (.long n), .second, .val (.long u), .second, .val (.ref br1), .val (.long (f_pct n u)), .second, .unset, .unset] [])) _
      refine XS.lload Xr3.here hx rfl (hb hby at_41) rfl ?_
      show Steps p.tables e below (Tr3.setTop (mkF m 43 #[.val (.long p0), .second, .val (.long p1), .second, .val (.long p2), .second, .val (.long n), .second, .val (.long u), .second, .val (.ref br1), .val (.long (f_pct n u)), .second, .unset, .unset] [(.long n)])) _
      refine XS.lconst Xr3.here hx rfl (hb hby at_43) ?_
      show Steps p.tables e below (Tr3.setTop (mkF m 44 #[.val (.long p0), .second, .val (.long p1), .second, .val (.long p2), .second, .val (.long n), .second, .val (.long u), .second, .val (.ref br1), .val (.long (f_pct n u)), .second, .unset, .unset] [(.long (0 : Int64)), (.long n)])) _
      refine XS.lcmp Xr3.here hx rfl (hb hby at_44) rfl ?_
      show Steps p.tables e below (Tr3.setTop (mkF m 45 #[.val (.long p0), .second, .val (.long p1), .second, .val (.long p2), .second, .val (.long n), .second, .val (.long u), .second, .val (.ref br1), .val (.long (f_pct n u)), .second, .unset, .unset] [(.int (lcmpW n (0 : Int64)))])) _
      refine XS.ifYes Xr3.here hx rfl (pc0 := 45) (pc' := 63) rfl (hb hby at_45) rfl ((if0 _ _).trans (feq (fun q => hn ((own_cmp_eq n 0).mp q))).2) (by decide) (by decide) ?_
      show Steps p.tables e below (Tr3.setTop (mkF m 63 #[.val (.long p0), .second, .val (.long p1), .second, .val (.long p2), .second, .val (.long n), .second, .val (.long u), .second, .val (.ref br1), .val (.long (f_pct n u)), .second, .unset, .unset] [])) _
      refine XS.lload Xr3.here hx rfl (hb hby at_63) rfl ?_
      show Steps p.tables e below (Tr3.setTop (mkF m 65 #[.val (.long p0), .second, .val (.long p1), .second, .val (.long p2), .second, .val (.long n), .second, .val (.long u), .second, .val (.ref br1), .val (.long (f_pct n u)), .second, .unset, .unset] [(.long (f_pct n u))])) _
      refine XS.lconst Xr3.here hx rfl (hb hby at_65) ?_
      show Steps p.tables e below (Tr3.setTop (mkF m 66 #[.val (.long p0), .second, .val (.long p1), .second, .val (.long p2), .second, .val (.long n), .second, .val (.long u), .second, .val (.ref br1), .val (.long (f_pct n u)), .second, .unset, .unset] [(.long (0 : Int64)), (.long (f_pct n u))])) _
      refine XS.lcmp Xr3.here hx rfl (hb hby at_66) rfl ?_
      show Steps p.tables e below (Tr3.setTop (mkF m 67 #[.val (.long p0), .second, .val (.long p1), .second, .val (.long p2), .second, .val (.long n), .second, .val (.long u), .second, .val (.ref br1), .val (.long (f_pct n u)), .second, .unset, .unset] [(.int (lcmpW (f_pct n u) (0 : Int64)))])) _
      refine XS.ifNo Xr3.here hx rfl (hb hby at_67) rfl ((if0 _ _).trans (flt (fun q => P1 ((own_cmp_lt _ _).mp q))).1) ?_
      show Steps p.tables e below (Tr3.setTop (mkF m 70 #[.val (.long p0), .second, .val (.long p1), .second, .val (.long p2), .second, .val (.long n), .second, .val (.long u), .second, .val (.ref br1), .val (.long (f_pct n u)), .second, .unset, .unset] [])) _
      refine XS.lload Xr3.here hx rfl (hb hby at_70) rfl ?_
      show Steps p.tables e below (Tr3.setTop (mkF m 72 #[.val (.long p0), .second, .val (.long p1), .second, .val (.long p2), .second, .val (.long n), .second, .val (.long u), .second, .val (.ref br1), .val (.long (f_pct n u)), .second, .unset, .unset] [(.long (f_pct n u))])) _
      refine Xr3.ldc2Long hx hown (mvT hZ (hw _ (List.mem_of_getElem? (i := 27) rfl))) (g := (mkF m 72 #[.val (.long p0), .second, .val (.long p1), .second, .val (.long p2), .second, .val (.long n), .second, .val (.long u), .second, .val (.ref br1), .val (.long (f_pct n u)), .second, .unset, .unset] [(.long (f_pct n u))])) rfl (hb hby at_72) _ ?_
      show Steps p.tables e below (Tr3.setTop (mkF m 75 #[.val (.long p0), .second, .val (.long p1), .second, .val (.long p2), .second, .val (.long n), .second, .val (.long u), .second, .val (.ref br1), .val (.long (f_pct n u)), .second, .unset, .unset] [(.long (100 : Int64)), (.long (f_pct n u))])) _
      refine XS.lcmp Xr3.here hx rfl (hb hby at_75) rfl ?_
      show Steps p.tables e below (Tr3.setTop (mkF m 76 #[.val (.long p0), .second, .val (.long p1), .second, .val (.long p2), .second, .val (.long n), .second, .val (.long u), .second, .val (.ref br1), .val (.long (f_pct n u)), .second, .unset, .unset] [(.int (lcmpW (f_pct n u) (100 : Int64)))])) _
      refine XS.ifYes Xr3.here hx rfl (pc0 := 76) (pc' := 81) rfl (hb hby at_76) rfl ((if0 _ _).trans (flt (fun q => P2 ((own_cmp_gt _ _).mp q))).2.2.2) (by decide) (by decide) ?_
      show Steps p.tables e below (Tr3.setTop (mkF m 81 #[.val (.long p0), .second, .val (.long p1), .second, .val (.long p2), .second, .val (.long n), .second, .val (.long u), .second, .val (.ref br1), .val (.long (f_pct n u)), .second, .unset, .unset] [])) _
      refine Xr3.ldc2Long hx hown (mvT hZ (hw _ (List.mem_of_getElem? (i := 27) rfl))) (g := (mkF m 81 #[.val (.long p0), .second, .val (.long p1), .second, .val (.long p2), .second, .val (.long n), .second, .val (.long u), .second, .val (.ref br1), .val (.long (f_pct n u)), .second, .unset, .unset] [])) rfl (hb hby at_81) _ ?_
      show Steps p.tables e below (Tr3.setTop (mkF m 84 #[.val (.long p0), .second, .val (.long p1), .second, .val (.long p2), .second, .val (.long n), .second, .val (.long u), .second, .val (.ref br1), .val (.long (f_pct n u)), .second, .unset, .unset] [(.long (100 : Int64))])) _
      refine XS.lload Xr3.here hx rfl (hb hby at_84) rfl ?_
      show Steps p.tables e below (Tr3.setTop (mkF m 86 #[.val (.long p0), .second, .val (.long p1), .second, .val (.long p2), .second, .val (.long n), .second, .val (.long u), .second, .val (.ref br1), .val (.long (f_pct n u)), .second, .unset, .unset] [(.long n), (.long (100 : Int64))])) _
      refine XS.lload Xr3.here hx rfl (hb hby at_86) rfl ?_
      show Steps p.tables e below (Tr3.setTop (mkF m 88 #[.val (.long p0), .second, .val (.long p1), .second, .val (.long p2), .second, .val (.long n), .second, .val (.long u), .second, .val (.ref br1), .val (.long (f_pct n u)), .second, .unset, .unset] [(.long u), (.long n), (.long (100 : Int64))])) _
      refine XS.lsub Xr3.here hx rfl (hb hby at_88) rfl ?_
      show Steps p.tables e below (Tr3.setTop (mkF m 89 #[.val (.long p0), .second, .val (.long p1), .second, .val (.long p2), .second, .val (.long n), .second, .val (.long u), .second, .val (.ref br1), .val (.long (f_pct n u)), .second, .unset, .unset] [(.long (n - u)), (.long (100 : Int64))])) _
      refine XS.lmul Xr3.here hx rfl (hb hby at_89) rfl ?_
      show Steps p.tables e below (Tr3.setTop (mkF m 90 #[.val (.long p0), .second, .val (.long p1), .second, .val (.long p2), .second, .val (.long n), .second, .val (.long u), .second, .val (.ref br1), .val (.long (f_pct n u)), .second, .unset, .unset] [(.long ((100 : Int64) * (n - u)))])) _
      refine XS.lstore Xr3.here hx rfl (hb hby at_90) rfl (l' := #[.val (.long p0), .second, .val (.long p1), .second, .val (.long p2), .second, .val (.long n), .second, .val (.long u), .second, .val (.ref br1), .val (.long (f_pct n u)), .second, .val (.long ((100 : Int64) * (n - u))), .second]) rfl ?_
      show Steps p.tables e below (Tr3.setTop (mkF m 92 #[.val (.long p0), .second, .val (.long p1), .second, .val (.long p2), .second, .val (.long n), .second, .val (.long u), .second, .val (.ref br1), .val (.long (f_pct n u)), .second, .val (.long ((100 : Int64) * (n - u))), .second] [])) _
      refine XS.lload Xr3.here hx rfl (hb hby at_92) rfl ?_
      show Steps p.tables e below (Tr3.setTop (mkF m 94 #[.val (.long p0), .second, .val (.long p1), .second, .val (.long p2), .second, .val (.long n), .second, .val (.long u), .second, .val (.ref br1), .val (.long (f_pct n u)), .second, .val (.long ((100 : Int64) * (n - u))), .second] [(.long (f_pct n u))])) _
      refine XS.lload Xr3.here hx rfl (hb hby at_94) rfl ?_
      show Steps p.tables e below (Tr3.setTop (mkF m 96 #[.val (.long p0), .second, .val (.long p1), .second, .val (.long p2), .second, .val (.long n), .second, .val (.long u), .second, .val (.ref br1), .val (.long (f_pct n u)), .second, .val (.long ((100 : Int64) * (n - u))), .second] [(.long n), (.long (f_pct n u))])) _
      refine XS.lmul Xr3.here hx rfl (hb hby at_96) rfl ?_
      show Steps p.tables e below (Tr3.setTop (mkF m 97 #[.val (.long p0), .second, .val (.long p1), .second, .val (.long p2), .second, .val (.long n), .second, .val (.long u), .second, .val (.ref br1), .val (.long (f_pct n u)), .second, .val (.long ((100 : Int64) * (n - u))), .second] [(.long ((f_pct n u) * n))])) _
      refine XS.lload Xr3.here hx rfl (hb hby at_97) rfl ?_
      show Steps p.tables e below (Tr3.setTop (mkF m 99 #[.val (.long p0), .second, .val (.long p1), .second, .val (.long p2), .second, .val (.long n), .second, .val (.long u), .second, .val (.ref br1), .val (.long (f_pct n u)), .second, .val (.long ((100 : Int64) * (n - u))), .second] [(.long ((100 : Int64) * (n - u))), (.long ((f_pct n u) * n))])) _
      refine XS.lcmp Xr3.here hx rfl (hb hby at_99) rfl ?_
      show Steps p.tables e below (Tr3.setTop (mkF m 100 #[.val (.long p0), .second, .val (.long p1), .second, .val (.long p2), .second, .val (.long n), .second, .val (.long u), .second, .val (.ref br1), .val (.long (f_pct n u)), .second, .val (.long ((100 : Int64) * (n - u))), .second] [(.int (lcmpW ((f_pct n u) * n) ((100 : Int64) * (n - u))))])) _
      refine XS.ifNo Xr3.here hx rfl (hb hby at_100) rfl ((if0 _ _).trans (flt (fun q => P3 ((own_cmp_gt _ _).mp q))).2.2.1) ?_
      show Steps p.tables e below (Tr3.setTop (mkF m 103 #[.val (.long p0), .second, .val (.long p1), .second, .val (.long p2), .second, .val (.long n), .second, .val (.long u), .second, .val (.ref br1), .val (.long (f_pct n u)), .second, .val (.long ((100 : Int64) * (n - u))), .second] [])) _
      refine XS.lload Xr3.here hx rfl (hb hby at_103) rfl ?_
      show Steps p.tables e below (Tr3.setTop (mkF m 105 #[.val (.long p0), .second, .val (.long p1), .second, .val (.long p2), .second, .val (.long n), .second, .val (.long u), .second, .val (.ref br1), .val (.long (f_pct n u)), .second, .val (.long ((100 : Int64) * (n - u))), .second] [(.long ((100 : Int64) * (n - u)))])) _
      refine XS.lload Xr3.here hx rfl (hb hby at_105) rfl ?_
      show Steps p.tables e below (Tr3.setTop (mkF m 107 #[.val (.long p0), .second, .val (.long p1), .second, .val (.long p2), .second, .val (.long n), .second, .val (.long u), .second, .val (.ref br1), .val (.long (f_pct n u)), .second, .val (.long ((100 : Int64) * (n - u))), .second] [(.long (f_pct n u)), (.long ((100 : Int64) * (n - u)))])) _
      refine XS.lconst Xr3.here hx rfl (hb hby at_107) ?_
      show Steps p.tables e below (Tr3.setTop (mkF m 108 #[.val (.long p0), .second, .val (.long p1), .second, .val (.long p2), .second, .val (.long n), .second, .val (.long u), .second, .val (.ref br1), .val (.long (f_pct n u)), .second, .val (.long ((100 : Int64) * (n - u))), .second] [(.long (1 : Int64)), (.long (f_pct n u)), (.long ((100 : Int64) * (n - u)))])) _
      refine XS.ladd Xr3.here hx rfl (hb hby at_108) rfl ?_
      show Steps p.tables e below (Tr3.setTop (mkF m 109 #[.val (.long p0), .second, .val (.long p1), .second, .val (.long p2), .second, .val (.long n), .second, .val (.long u), .second, .val (.ref br1), .val (.long (f_pct n u)), .second, .val (.long ((100 : Int64) * (n - u))), .second] [(.long ((f_pct n u) + (1 : Int64))), (.long ((100 : Int64) * (n - u)))])) _
      refine XS.lload Xr3.here hx rfl (hb hby at_109) rfl ?_
      show Steps p.tables e below (Tr3.setTop (mkF m 111 #[.val (.long p0), .second, .val (.long p1), .second, .val (.long p2), .second, .val (.long n), .second, .val (.long u), .second, .val (.ref br1), .val (.long (f_pct n u)), .second, .val (.long ((100 : Int64) * (n - u))), .second] [(.long n), (.long ((f_pct n u) + (1 : Int64))), (.long ((100 : Int64) * (n - u)))])) _
      refine XS.lmul Xr3.here hx rfl (hb hby at_111) rfl ?_
      show Steps p.tables e below (Tr3.setTop (mkF m 112 #[.val (.long p0), .second, .val (.long p1), .second, .val (.long p2), .second, .val (.long n), .second, .val (.long u), .second, .val (.ref br1), .val (.long (f_pct n u)), .second, .val (.long ((100 : Int64) * (n - u))), .second] [(.long (((f_pct n u) + (1 : Int64)) * n)), (.long ((100 : Int64) * (n - u)))])) _
      refine XS.lcmp Xr3.here hx rfl (hb hby at_112) rfl ?_
      show Steps p.tables e below (Tr3.setTop (mkF m 113 #[.val (.long p0), .second, .val (.long p1), .second, .val (.long p2), .second, .val (.long n), .second, .val (.long u), .second, .val (.ref br1), .val (.long (f_pct n u)), .second, .val (.long ((100 : Int64) * (n - u))), .second] [(.int (lcmpW ((100 : Int64) * (n - u)) (((f_pct n u) + (1 : Int64)) * n)))])) _
      refine XS.ifNo Xr3.here hx rfl (hb hby at_113) rfl ((if0 _ _).trans (tlt ((own_cmp_lt _ _).mpr P4)).2.1) ?_
      show Steps p.tables e below (Tr3.setTop (mkF m 116 #[.val (.long p0), .second, .val (.long p1), .second, .val (.long p2), .second, .val (.long n), .second, .val (.long u), .second, .val (.ref br1), .val (.long (f_pct n u)), .second, .val (.long ((100 : Int64) * (n - u))), .second] [])) _
      refine XS.iconst Xr3.here hx rfl (hb hby at_116) ?_
      show Steps p.tables e below (Tr3.setTop (mkF m 117 #[.val (.long p0), .second, .val (.long p1), .second, .val (.long p2), .second, .val (.long n), .second, .val (.long u), .second, .val (.ref br1), .val (.long (f_pct n u)), .second, .val (.long ((100 : Int64) * (n - u))), .second] [(.int (1 : Int32))])) _
      refine XS.goto Xr3.here hx rfl (pc0 := 117) (pc' := 121) rfl (hb hby at_117) (by decide) (by decide) ?_
      show Steps p.tables e below (Tr3.setTop (mkF m 121 #[.val (.long p0), .second, .val (.long p1), .second, .val (.long p2), .second, .val (.long n), .second, .val (.long u), .second, .val (.ref br1), .val (.long (f_pct n u)), .second, .val (.long ((100 : Int64) * (n - u))), .second] [(.int (1 : Int32))])) _
      exact retN Xr3 hx (t := .boolean) Bd.returns (by simp) (hb hby at_121) hr
    · show Q_law Z p0 p1 p2 h0 n0 _ Tr3.heap _
      rw [er3]
      exact ⟨rfl, Nr3⟩
set_option maxRecDepth 65536 in
set_option maxHeartbeats 40000000 in
theorem comes_1 {Post : Tables → Env → Array Value → State → Outcome → State → Prop} (hpost : ∀ tb e args s v u, (limb_1_1.after args s (.returned v) u = true ∧ limb_1_2.after args s (.returned v) u = true ∧ True) → FrameEnd s (.returned v) u (Jvm.fieldLocs frame_1_writes args s ++ Jvm.arrayLocs frame_1_arrays args s ++ Jvm.staticLocs frame_1_statics s) 16 128 → Post tb e args s (.returned v) u) :
    ArmFor flags0 classFile x code maxLocals ret World_1 tables_1 room_1 Calls_1 rest_1 Pre_1 Post := by
  intro l hfl _ _ p e ha hc hk s m args below hf hA hF happ hP
  obtain ⟨hcalls, hrest, hpre⟩ := hP
  obtain ⟨-, -, -, hnamed, -, -, -, hat⟩ := (Spec.applies_iff hf).mp happ
  obtain ⟨hg, hn⟩ := and_e (Cond.before_iff.mp (show (Jvm.Cond.and given_1 narrow_1).before args s = true from hpre))
  obtain ⟨hcount, hq0⟩ := and_e hg
  obtain ⟨ha0, hq1⟩ := and_e hq0
  obtain ⟨ha1, hq2⟩ := and_e hq1
  have ha2 := hq2
  obtain ⟨w0, w1, w2, rfl⟩ : ∃ w0 w1 w2 : Value, args = #[w0, w1, w2] := by
    have hs : args.size = 3 := by simpa [Cond.value, given_1] using hcount
    obtain ⟨L⟩ := args
    match L, hs with
    | [w0, w1, w2], _ => exact ⟨w0, w1, w2, rfl⟩
  have hw := fun d (hd : d ∈ tables_1) => atoms_spec (ws := Jvm.Cond.code x code maxLocals ret :: tables_1) hat d (List.mem_cons_of_mem _ hd)
  have hfit : Fit s := fun {y c} hc i hi => by
    obtain ⟨ha, rfl⟩ := Array.getElem?_eq_some_iff.mp hc
    have q := List.all_eq_true.mp ((Array.all_eq_true_iff_forall_mem.mp hF) _ (Array.getElem_mem ha)) i (List.mem_range.mpr hi)
    simpa [Array.getElem?_eq_getElem hi] using q
  obtain ⟨i0, ei0⟩ := isL_v ha0
  obtain rfl : w0 = (.long i0) := Option.some.inj ei0
  obtain ⟨i1, ei1⟩ := isL_v ha1
  obtain rfl : w1 = (.long i1) := Option.some.inj ei1
  obtain ⟨i2, ei2⟩ := isL_v ha2
  obtain rfl : w2 = (.long i2) := Option.some.inj ei2
  obtain ⟨n, o, h1, h2, h3, _, L, rfl, ⟨rfl, N⟩, hq⟩ := rm_law l s _ hw tables_1 i0 i1 i2  s.heap s.heap.size (Nat.le_refl _)  p e ha hc hk s m _ below hf ((Spec.applies_iff_loose hf).mp happ).1 ⟨rfl, State.Warmed39.refl s, rfl⟩ trivial
  refine ⟨n, _, h1, h2, h3, hpost _ _ _ _ _ _ ⟨Cond.after_iff.mpr rfl, Cond.after_iff.mpr (eq_i res_at (Term.int_eval (1)) rfl), trivial⟩ ⟨hq.1, hq.2.1, (hq.2.2.sift fun y hy => Or.inr (N y hy)).mono (by decide) (by decide)⟩⟩
theorem main_1_1 : Claimed_1_1 := comes_1 fun _ _ _ _ _ _ h hF => ⟨h.1, hF⟩
theorem main_1_2 : Claimed_1_2 := comes_1 fun _ _ _ _ _ _ h hF => ⟨h.2.1, hF⟩
end Jvm.Pilot.@@N@@
namespace Jvm.Pilot.@@N@@
open Jvm Jvm.ClassFile Sem Op Lib Jvm.Free Jvm.Stand Jvm.Pilot.@@N@@.Jvm.D
/-! MADE BY PROGRAM (witnessworld.py) out of the Statement's table words and the real class files: 10 classes; the members and pool entries that the words name. The judged class is class 1, her method 1. -/
namespace start1
open Jvm.ClassFile
def u (s : String) : CpInfo := .utf8 (stringToUtf16 s)
/-- a pool by its gaps: so many unusable entries, then the entry; so many at the end -/
def gap : Nat → List CpInfo → List CpInfo
  | 0, r => r
  | n + 1, r => .unusable :: gap n r
def poolList (es : List (Nat × CpInfo)) (last : Nat) : List CpInfo := es.foldr (fun e r => gap e.1 (e.2 :: r)) (gap last [])
def pool (es : List (Nat × CpInfo)) (last : Nat) : Array CpInfo := ⟨poolList es last⟩
def fileOf (pool : Array CpInfo) (this : Nat) (attrs : Array Attribute := #[]) (ms : Array MethodInfo := #[]) (fl : Nat := 33) (sup : Nat := 0) (ifs : Array Nat := #[]) (fds : Array FieldInfo := #[]) : ClassFile where
  minorVersion := 0
  majorVersion := 65
  constantPool := pool
  accessFlags := fl
  thisClass := this
  superClass := sup
  interfaces := ifs
  fields := fds
  methods := ms
  attributes := attrs
def plain (name : String) (sup : Option ClassId) : Class where
  name := name
  kind := .ordinary
  loader := none
  accessFlags := 33
  super := sup
  interfaces := #[]
  cf := none
  fields := #[]
  methods := #[]
  instanceTypes := #[]
  staticTypes := #[]
  resolved := #[]
  callSites := []
  init := .initialized
  statics := none
  mirror := none

def pool0 : Array CpInfo := pool [(5, u "<init>"), (0, u "()V"), (1, .class_ 10), (1, u "java/lang/Object")] 113

def k0c0 : Code := { maxStack := 0, maxLocals := 1, code := object_method_1_code, exceptionTable := #[], attributes := #[] }
def k0m0 : Method := { name := "<init>", desc := "()V", sig := { parameters := [], returnType := none }, accessFlags := 1, code := some k0c0 }
/-- java/lang/Object -/
def k0 : Class := { plain "java/lang/Object" none with
  accessFlags := 33
  interfaces := #[]
  cf := some (fileOf pool0 8 #[] #[{ accessFlags := 1, nameIndex := 5, descriptorIndex := 6, attributes := #[] }] 33 0 #[] #[])
  fields := #[]
  methods := #[k0m0]
  instanceTypes := #[]
  staticTypes := #[]
  resolved := Array.replicate 124 none
  statics := none }

def pool1 : Array CpInfo := pool [(2, .class_ 4), (1, u "java/lang/Object"), (0, u "<init>"), (0, u "()V"), (0, .long 72057594037927935), (1, .class_ 10), (0, u "com/example/refinory/refinory/status/Tally"), (0, .methodref 9 12), (0, .nameAndType 5 13), (0, u "(JJJ)V"), (0, .methodref 9 15), (0, .nameAndType 16 17), (0, u "percentProved"), (0, u "()J"), (0, .long 100), (1, .class_ 21), (0, u "com/example/refinory/refinory/status/TallyPercentProvedPinLaw"), (2, u "law"), (0, u "(JJJ)Z")] 3

def k1m0 : Method := { name := "<init>", desc := "()V", sig := { parameters := [], returnType := none }, accessFlags := 2, code := none }
def k1c1 : Code := { maxStack := 8, maxLocals := 15, code := code, exceptionTable := #[], attributes := #[] }
def k1m1 : Method := { name := "law", desc := "(JJJ)Z", sig := { parameters := [.long, .long, .long], returnType := some .boolean }, accessFlags := 9, code := some k1c1 }
/-- com/example/refinory/refinory/status/TallyPercentProvedPinLaw -/
def k1 : Class := { plain "com/example/refinory/refinory/status/TallyPercentProvedPinLaw" (some 0) with
  accessFlags := 49
  interfaces := #[]
  cf := some (fileOf pool1 20 #[] #[{ accessFlags := 2, nameIndex := 5, descriptorIndex := 6, attributes := #[] }, { accessFlags := 9, nameIndex := 24, descriptorIndex := 25, attributes := #[] }] 49 2 #[] #[])
  fields := #[]
  methods := #[k1m0, k1m1]
  instanceTypes := #[]
  staticTypes := #[]
  resolved := Array.replicate 29 none
  statics := none }

def pool2 : Array CpInfo := pool [(1, .methodref 2 3), (0, .class_ 4), (0, .nameAndType 5 6), (0, u "java/lang/Object"), (0, u "<init>"), (0, u "()V"), (0, .class_ 8), (0, u "java/lang/Record")] 13

def k2c0 : Code := { maxStack := 1, maxLocals := 1, code := jdk_30_method_1_code, exceptionTable := #[], attributes := #[] }
def k2m0 : Method := { name := "<init>", desc := "()V", sig := { parameters := [], returnType := none }, accessFlags := 4, code := some k2c0 }
/-- java/lang/Record -/
def k2 : Class := { plain "java/lang/Record" (some 0) with
  accessFlags := 1057
  interfaces := #[]
  cf := some (fileOf pool2 7 #[] #[{ accessFlags := 4, nameIndex := 5, descriptorIndex := 6, attributes := #[] }] 1057 2 #[] #[])
  fields := #[]
  methods := #[k2m0]
  instanceTypes := #[]
  staticTypes := #[]
  resolved := Array.replicate 22 none
  statics := none }

def pool3 : Array CpInfo := pool [(1, .methodref 2 3), (0, .class_ 4), (0, .nameAndType 5 6), (0, u "java/lang/Record"), (0, u "<init>"), (0, u "()V"), (0, .fieldref 8 9), (0, .class_ 10), (0, .nameAndType 11 12), (0, u "com/example/refinory/refinory/status/Tally"), (0, u "obvious"), (0, u "J"), (0, .fieldref 8 14), (0, .nameAndType 15 12), (0, u "nonObvious"), (0, .fieldref 8 17), (0, .nameAndType 18 12), (0, u "unproved"), (1, .class_ 22), (1, u "com/example/refinory/refinory/status/Tally$1"), (21, u "(JJJ)V"), (0, .long 100), (15, u "NONE"), (0, u "Lcom/example/refinory/refinory/status/Tally;"), (8, u "percentProved"), (0, u "()J")] 27

def k3c0 : Code := { maxStack := 3, maxLocals := 7, code := prog_141_method_1_code, exceptionTable := #[], attributes := #[] }
def k3m0 : Method := { name := "<init>", desc := "(JJJ)V", sig := { parameters := [.long, .long, .long], returnType := none }, accessFlags := 1, code := some k3c0 }
def k3c1 : Code := { maxStack := 6, maxLocals := 1, code := prog_141_method_4_code, exceptionTable := #[], attributes := #[] }
def k3m1 : Method := { name := "percentProved", desc := "()J", sig := { parameters := [], returnType := some .long }, accessFlags := 1, code := some k3c1 }
/-- com/example/refinory/refinory/status/Tally -/
def k3 : Class := { plain "com/example/refinory/refinory/status/Tally" (some 2) with
  accessFlags := 49
  interfaces := #[]
  cf := some (fileOf pool3 8 #[.nestMembers #[20]] #[{ accessFlags := 1, nameIndex := 5, descriptorIndex := 44, attributes := #[] }, { accessFlags := 1, nameIndex := 71, descriptorIndex := 72, attributes := #[] }] 49 2 #[] #[{ accessFlags := 18, nameIndex := 11, descriptorIndex := 12, attributes := #[] }, { accessFlags := 18, nameIndex := 15, descriptorIndex := 12, attributes := #[] }, { accessFlags := 18, nameIndex := 18, descriptorIndex := 12, attributes := #[] }, { accessFlags := 25, nameIndex := 61, descriptorIndex := 62, attributes := #[] }])
  fields := #[{ name := "obvious", type := .long, accessFlags := 18, slot := 0, constantValue := 0 }, { name := "nonObvious", type := .long, accessFlags := 18, slot := 1, constantValue := 0 }, { name := "unproved", type := .long, accessFlags := 18, slot := 2, constantValue := 0 }, { name := "NONE", type := (.object "com/example/refinory/refinory/status/Tally"), accessFlags := 25, slot := 0, constantValue := 0 }]
  methods := #[k3m0, k3m1]
  instanceTypes := #[.long, .long, .long]
  staticTypes := #[(.object "com/example/refinory/refinory/status/Tally")]
  resolved := Array.replicate 100 none
  statics := none }

def pool4 : Array CpInfo := pool [(1, u "java/lang/Cloneable"), (0, .class_ 1), (0, u "java/lang/Object"), (0, .class_ 3)] 3

/-- java/lang/Cloneable -/
def k4 : Class := { plain "java/lang/Cloneable" (some 0) with
  accessFlags := 1537
  interfaces := #[]
  cf := some (fileOf pool4 2 #[] #[] 1537 4 #[] #[])
  fields := #[]
  methods := #[]
  instanceTypes := #[]
  staticTypes := #[]
  resolved := Array.replicate 8 none
  statics := none }

def pool5 : Array CpInfo := pool [(1, u "java/io/Serializable"), (0, .class_ 1), (0, u "java/lang/Object"), (0, .class_ 3)] 3

/-- java/io/Serializable -/
def k5 : Class := { plain "java/io/Serializable" (some 0) with
  accessFlags := 1537
  interfaces := #[]
  cf := some (fileOf pool5 2 #[] #[] 1537 4 #[] #[])
  fields := #[]
  methods := #[]
  instanceTypes := #[]
  staticTypes := #[]
  resolved := Array.replicate 8 none
  statics := none }

/-- the primitive byte -/
def k6 : Class := { plain "byte" none with kind := .primitive 'B', accessFlags := 0x411 }
/-- [B -/
def k7 : Class := { plain "[B" (some 0) with kind := .array 6 .byte, interfaces := #[4, 5], accessFlags := 1041 }

/-- the primitive int -/
def k8 : Class := { plain "int" none with kind := .primitive 'I', accessFlags := 0x411 }
/-- [I -/
def k9 : Class := { plain "[I" (some 0) with kind := .array 8 .int, interfaces := #[4, 5], accessFlags := 1041 }

def heap : Heap := #[]
def classes : Array Class := #[k0, k1, k2, k3, k4, k5, k6, k7, k8, k9]
def interned : List (Array UInt16 × Addr) := []
def slotsUsed : Nat := 0
def theMethod : MethodId := ⟨1, 1⟩
def args0 : Array Value := #[.long 5, .long 7, .long 3]
def aboutOver (below : List Frame) : State where
  vm := { classes := classes, interned := interned.toArray }
  heap := heap
  slotsUsed := slotsUsed
  threads := #[{ frames := .invoking theMethod args0 :: below }]
def below0 : List Frame := [.native { method := ⟨0, 0⟩, args := #[] }]
def about1 : State := aboutOver below0
def p0 : Program := .bare "" "" ""
def e0 : Env := launch0.env 0 0 0
theorem w_frames : about1.frames = Frame.invoking theMethod args0 :: below0 := rfl
set_option maxRecDepth 65536 in
theorem w_args : argsFit about1.vm theMethod args0 = true := by decide +kernel
set_option maxRecDepth 65536 in
theorem w_heap : heapFits about1 = true := by decide +kernel
set_option maxRecDepth 65536 in
theorem w_runnable : about1.curStatus? = some .runnable := by decide +kernel
set_option maxRecDepth 65536 in
theorem w_alone : about1.alone = true := by decide +kernel
set_option maxRecDepth 65536 in
theorem w_named : about1.methodNamed? x = some theMethod := by decide +kernel
set_option maxRecDepth 65536 in
theorem w_hears : about1.hears theMethod below0 = true := by decide +kernel
set_option maxRecDepth 65536 in
theorem w_ripe : about1.ripe theMethod args0 below0 = true := by decide +kernel
theorem w_running : about1.status = .running := rfl
set_option maxRecDepth 65536 in
theorem w_room : about1.hasRoom e0.platform room_1 = true :=
  launch0.hasRoom_least _ room_1 (by decide +kernel) (by decide +kernel) (by decide +kernel) (by decide +kernel) (by decide +kernel) (by decide +kernel)
theorem allAtoms_all (ts : List Jvm.Cond) (a : Array Jvm.Value) (st : Jvm.State) : (allAtoms ts).before a st = ts.all (fun c => c.before a st) := by
  induction ts with
  | nil => rfl
  | cons c t ih =>
    show (Jvm.Cond.and c (allAtoms t)).before a st = _
    rw [Jvm.Cond.before_and, ih, List.all_cons]
def words1 : List Jvm.Cond := Jvm.Cond.code x code maxLocals ret :: tables_1
/-- a 'code' word, met by the world's own term for the bytes: nothing is compared byte by byte -/
theorem code_word {y : MethodName} {bytes : ByteArray} {mx : Nat} {rt : Option FieldType} {a : Array Value} {s : State} {m : MethodId} {meth : Method} {c : Code} (h1 : s.methodNamed? y = some m) (h2 : s.vm.method? m = some meth) (h3 : meth.code = some c) (h4 : c.code = bytes)
    (h5 : (c.maxLocals == mx && c.exceptionTable.isEmpty && decide (c.maxStack ≤ mostOperands) && decide (meth.sig.returnType = rt) && !meth.locks && decide (parseMethodDescriptor y.desc = some meth.sig)) = true) : (Jvm.Cond.code y bytes mx rt).before a s = true := by
  simp only [Bool.and_eq_true, beq_iff_eq, Bool.not_eq_true', decide_eq_true_eq] at h5
  obtain ⟨⟨⟨⟨⟨g1, g2⟩, g3⟩, g4⟩, g5⟩, g6⟩ := h5
  simp [Cond.before, Cond.holds, Cond.value, h1, h2, h3, h4, g1, g2, g3, g4, g5, g6]
def isCode : Jvm.Cond → Bool
  | .code _ _ _ _ => true
  | _ => false
theorem all_split {L : List Jvm.Cond} {P : Jvm.Cond → Bool} (h1 : L.all (fun c => isCode c || P c) = true) (h2 : ∀ c ∈ L.filter isCode, P c = true) : L.all P = true := by
  refine List.all_eq_true.mpr fun c hc => ?_
  have h := List.all_eq_true.mp h1 c hc
  rcases Bool.eq_false_or_eq_true (isCode c) with hi | hi
  · exact h2 c (List.mem_filter.mpr ⟨hc, hi⟩)
  · simpa [hi] using h
set_option maxRecDepth 65536 in
theorem w_c0 : (Jvm.Cond.code x code maxLocals ret).before args0 about1 = true := code_word (m := ⟨1, 1⟩) (meth := k1m1) (c := k1c1) (by decide +kernel) rfl rfl rfl (by decide +kernel)
set_option maxRecDepth 65536 in
theorem w_c1 : (Jvm.Cond.code ({ cls := "com/example/refinory/refinory/status/Tally", name := "<init>", desc := "(JJJ)V" } : Jvm.MethodName) prog_141_method_1_code (7 : Nat) (Option.none : Option Jvm.ClassFile.FieldType)).before args0 about1 = true := code_word (m := ⟨3, 0⟩) (meth := k3m0) (c := k3c0) (by decide +kernel) rfl rfl rfl (by decide +kernel)
set_option maxRecDepth 65536 in
theorem w_c2 : (Jvm.Cond.code ({ cls := "java/lang/Record", name := "<init>", desc := "()V" } : Jvm.MethodName) jdk_30_method_1_code (1 : Nat) (Option.none : Option Jvm.ClassFile.FieldType)).before args0 about1 = true := code_word (m := ⟨2, 0⟩) (meth := k2m0) (c := k2c0) (by decide +kernel) rfl rfl rfl (by decide +kernel)
set_option maxRecDepth 65536 in
theorem w_c3 : (Jvm.Cond.code ({ cls := "java/lang/Object", name := "<init>", desc := "()V" } : Jvm.MethodName) object_method_1_code (1 : Nat) (Option.none : Option Jvm.ClassFile.FieldType)).before args0 about1 = true := code_word (m := ⟨0, 0⟩) (meth := k0m0) (c := k0c0) (by decide +kernel) rfl rfl rfl (by decide +kernel)
set_option maxRecDepth 65536 in
theorem w_c4 : (Jvm.Cond.code ({ cls := "com/example/refinory/refinory/status/Tally", name := "percentProved", desc := "()J" } : Jvm.MethodName) prog_141_method_4_code (1 : Nat) (Option.some Jvm.ClassFile.FieldType.long)).before args0 about1 = true := code_word (m := ⟨3, 1⟩) (meth := k3m1) (c := k3c1) (by decide +kernel) rfl rfl rfl (by decide +kernel)
def codes1 : List Jvm.Cond := [Jvm.Cond.code x code maxLocals ret, Jvm.Cond.code ({ cls := "com/example/refinory/refinory/status/Tally", name := "<init>", desc := "(JJJ)V" } : Jvm.MethodName) prog_141_method_1_code (7 : Nat) (Option.none : Option Jvm.ClassFile.FieldType), Jvm.Cond.code ({ cls := "java/lang/Record", name := "<init>", desc := "()V" } : Jvm.MethodName) jdk_30_method_1_code (1 : Nat) (Option.none : Option Jvm.ClassFile.FieldType), Jvm.Cond.code ({ cls := "java/lang/Object", name := "<init>", desc := "()V" } : Jvm.MethodName) object_method_1_code (1 : Nat) (Option.none : Option Jvm.ClassFile.FieldType), Jvm.Cond.code ({ cls := "com/example/refinory/refinory/status/Tally", name := "percentProved", desc := "()J" } : Jvm.MethodName) prog_141_method_4_code (1 : Nat) (Option.some Jvm.ClassFile.FieldType.long)]
set_option maxRecDepth 65536 in
theorem codes_eq : words1.filter isCode = codes1 := rfl
theorem w_codes : ∀ c ∈ words1.filter isCode, c.before args0 about1 = true := by
  rw [codes_eq]
  intro c hc
  simp only [codes1, List.mem_cons, List.not_mem_nil, or_false] at hc
  rcases hc with rfl | rfl | rfl | rfl | rfl
  · exact w_c0
  · exact w_c1
  · exact w_c2
  · exact w_c3
  · exact w_c4
set_option maxRecDepth 65536 in
theorem w_t1 : (words1.take 24).all (fun c => isCode c || c.before args0 about1) = true := by decide +kernel
set_option maxRecDepth 65536 in
theorem w_t2 : (words1.drop 24).all (fun c => isCode c || c.before args0 about1) = true := by decide +kernel
theorem w_tables : (allAtoms (Jvm.Cond.code x code maxLocals ret :: tables_1)).before args0 about1 = true := by
  rw [allAtoms_all]
  show words1.all (fun c => c.before args0 about1) = true
  refine all_split ?_ w_codes
  rw [← List.take_append_drop 24 words1, List.all_append, w_t1, w_t2]
  rfl
set_option maxRecDepth 65536 in
theorem w_case : (Jvm.Cond.and given_1 narrow_1).before args0 about1 = true := by decide +kernel
theorem w_applies : (headSpec (Jvm.Cond.code x code maxLocals ret :: tables_1) room_1).applies x e0.platform about1 = true :=
  (Spec.applies_iff w_frames).mpr ⟨w_running, w_runnable, w_alone, w_named, w_hears, w_ripe, w_room, w_tables⟩
theorem atStart : AtStart classFile x code maxLocals ret World_1 tables_1 room_1 Calls_1 rest_1 Pre_1 launch0 p0 e0 about1 theMethod args0 below0 :=
  ⟨lists_1, trivial, launch0.admits_env _ _ _, launch0.least_env, fairChoices_fair.cas, fairChoices_fair.clock, w_frames, w_args, w_heap, w_applies, trivial, trivial, w_case⟩
end start1
theorem witness_1 : WitnessClaimed_1 := ⟨start1.p0, start1.e0, start1.about1, start1.theMethod, start1.args0, start1.below0, start1.atStart⟩
end Jvm.Pilot.@@N@@
