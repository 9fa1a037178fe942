import JvmDerived
import JvmDerived.Pilot.@@N@@Statement
import JvmDerived.Pilot.@@N@@Code
set_option linter.unusedVariables false
set_option linter.unusedSimpArgs false
@@BLOCK:NumsL.lean.txt@@
namespace Jvm.RoadKit
open Sem ClassFile Op Lib Jvm.Stand Jvm.Free Jvm.LawKit
section New
variable {p : Program} {l : Launch} {e : Env} {R : Room} {s : State} {m : MethodId} {args : Array Value} {below : List Frame} {meth : Method} {c : Code} {T : State} {locs : List Loc} {cells slots : Nat}
theorem retI (X : Stand p l e R s m args below meth c T locs cells slots) (hx : p.tables.exec = Jvm.exec) {pc : Nat} {Ls : Array Slot} {z : Int32} {rest : List Value} (hret : meth.sig.returnType = some .int) (hd : decode c.code pc = .ok (.ireturn, 1)) {fs : List Frame}
    (hl : ∀ (f : JFrame) (acts : List Action), f.method = m → f.locked = none → f.entered = [] → (doReturn e (T.setTop f) acts (some (.int z))).1 = T.setFrames fs) : Steps p.tables e below (T.setTop (mkF m pc Ls (.int z :: rest))) (T.setFrames fs) := by
  have hm' : T.vm.method? m = some meth := X.method'
  have hn : narrow .int (.int z) = .int z := rfl
  show Steps p.tables e below (T.setTop { method := m, pc := pc, locals := Ls, stack := _ :: rest, locked := none }) _
  jvm_step X.here [X.here.top, hx, hd, hm', hret, hn]
  first | (intro acts; rw [hl _ acts rfl rfl rfl]) | rw [hl _ _ rfl rfl rfl]
  exact Steps.refl _
end New
end Jvm.RoadKit
namespace Jvm.Pilot.@@N@@
open Jvm Jvm.ClassFile Sem Op Lib Jvm.Free Jvm.Stand Jvm.LawKit Jvm.RoadKit Bundle Jvm.Pilot.@@N@@.Jvm.D
theorem own_toInt {n : Nat} (hn : n ≤ 100) : (Int32.ofNat n).toInt = n := Int32.toInt_ofNat_of_lt (by omega)
theorem own_lt {i n : Nat} (hi : i ≤ 100) (hn : n ≤ 100) : Int32.ofNat i < Int32.ofNat n ↔ i < n := by
  rw [Int32.lt_iff_toInt_lt, own_toInt hi, own_toInt hn]; omega
theorem own_inj {i n : Nat} (hi : i ≤ 100) (hn : n ≤ 100) : Int32.ofNat i = Int32.ofNat n ↔ i = n := by
  rw [← Int32.toInt_inj, own_toInt hi, own_toInt hn]; omega
theorem own_nn {n : Nat} (hn : n ≤ 100) : ¬ Int32.ofNat n < 0 := by
  rw [Int32.lt_iff_toInt_lt, own_toInt hn, show (0 : Int32).toInt = 0 from rfl]; omega
theorem own_n32 {n : Nat} (hn : n ≤ 100) : (Int32.ofNat n).toNatClampNeg = n := by
  rw [Int32.toNatClampNeg, own_toInt hn]; rfl
theorem own_one (i : Nat) : Int32.ofNat i + (1 : Int32) = Int32.ofNat (i + 1) := (Int32.ofNat_add i 1).symm
theorem own_two (i : Nat) : Int32.ofNat i + (2 : Int32) = Int32.ofNat (i + 2) := (Int32.ofNat_add i 2).symm
theorem own_in {cl : Cell} (hsz : cl.slots.size = 5) {i : Nat} (h : i < 5) : ¬ (Int32.ofNat i < 0 ∨ cl.slots.size ≤ (Int32.ofNat i).toNatClampNeg) := by
  rw [hsz, own_n32 (by omega)]
  exact fun q => q.elim (own_nn (by omega)) (fun q => by omega)
theorem own_at {cl : Cell} {G : Nat → Int32} (hat : ∀ j, j < 5 → cl.slots[j]? = some (.int (G j))) {i : Nat} (h : i < 5) : cl.slots[(Int32.ofNat i).toNatClampNeg]? = some (.int (G i)) := by
  rw [own_n32 (by omega)]; exact hat i h
theorem own_mod (x : Int32) : ∃ a : Nat, a ≤ 5 ∧ ((x &&& (2147483647 : Int32)) % (6 : Int32)) = Int32.ofNat a := by
  have e1 : (x &&& (2147483647 : Int32)).toInt = x.toInt % 2 ^ 31 := Jvm.Kit.i32_mask x 2147483647 (k := 31) (by decide) (by decide)
  have e2 : ((x &&& (2147483647 : Int32)) % (6 : Int32)).toInt = (x &&& (2147483647 : Int32)).toInt % (6 : Int32).toInt := Jvm.Kit.i32_rem_nonneg (by omega)
  have e3 : (6 : Int32).toInt = 6 := rfl
  rw [e3] at e2
  refine ⟨((x &&& (2147483647 : Int32)) % (6 : Int32)).toInt.toNat, by omega, ?_⟩
  apply Int32.toInt_inj.mp
  rw [own_toInt (by omega)]; omega
/-- place j lies in an empty line that ends ahead of r -/
def own_line (G : Nat → Int32) (j r : Nat) : Prop := G j = 10 ∨ (G j = 13 ∧ j + 1 < r ∧ G (j + 1) = 10)
/-- what the callee leaves: the run of empty lines from i goes to r and no further -/
def own_run (G : Nat → Int32) (t i r : Nat) : Prop := i ≤ r ∧ r ≤ t ∧ (∀ j, i ≤ j → j < r → own_line G j r) ∧ (r = t ∨ ¬ own_line G r t)
theorem d1_0 : decode method_3_code 0 = .ok (.iload_n 0, 1) := by decide +kernel
theorem d1_1 : decode method_3_code 1 = .ok (.iconst 2, 1) := by decide +kernel
theorem d1_2 : decode method_3_code 2 = .ok (.iload_n 3, 1) := by decide +kernel
theorem d1_3 : decode method_3_code 3 = .ok (.imul, 1) := by decide +kernel
theorem d1_4 : decode method_3_code 4 = .ok (.iushr, 1) := by decide +kernel
theorem d1_5 : decode method_3_code 5 = .ok (.iconst 3, 1) := by decide +kernel
theorem d1_6 : decode method_3_code 6 = .ok (.iand, 1) := by decide +kernel
theorem d1_7 : decode method_3_code 7 = .ok (.istore 4, 2) := by decide +kernel
theorem d1_9 : decode method_3_code 9 = .ok (.iload 4, 2) := by decide +kernel
theorem d1_11 : decode method_3_code 11 = .ok (.ifCond .ne 6, 3) := by decide +kernel
theorem d1_14 : decode method_3_code 14 = .ok (.bipush 10, 2) := by decide +kernel
theorem d1_16 : decode method_3_code 16 = .ok (.ireturn, 1) := by decide +kernel
theorem d1_17 : decode method_3_code 17 = .ok (.iload 4, 2) := by decide +kernel
theorem d1_19 : decode method_3_code 19 = .ok (.iconst 1, 1) := by decide +kernel
theorem d1_20 : decode method_3_code 20 = .ok (.if_icmp .ne 6, 3) := by decide +kernel
theorem d1_23 : decode method_3_code 23 = .ok (.bipush 13, 2) := by decide +kernel
theorem d1_25 : decode method_3_code 25 = .ok (.ireturn, 1) := by decide +kernel
theorem d1_26 : decode method_3_code 26 = .ok (.lload_n 1, 1) := by decide +kernel
theorem d1_27 : decode method_3_code 27 = .ok (.bipush 8, 2) := by decide +kernel
theorem d1_29 : decode method_3_code 29 = .ok (.iload_n 3, 1) := by decide +kernel
theorem d1_30 : decode method_3_code 30 = .ok (.imul, 1) := by decide +kernel
theorem d1_31 : decode method_3_code 31 = .ok (.lushr, 1) := by decide +kernel
theorem d1_32 : decode method_3_code 32 = .ok (.l2i, 1) := by decide +kernel
theorem d1_33 : decode method_3_code 33 = .ok (.i2b, 1) := by decide +kernel
theorem d1_34 : decode method_3_code 34 = .ok (.ireturn, 1) := by decide +kernel
theorem pn_pick : plainName "com/example/elgin/elgin/broker/RequestHeadSkipEmptyLinesPinLaw" = true := by first | (simp [plainName, overriddenIn]; done) | decide +kernel
theorem ef_pick (m : MethodId) (p0 : Int32) (q1 : Int64) (p2 : Int32) : entryFrame m #[(.int p0), (.long q1), (.int p2)] 5 = mkF m 0 #[.val (.int p0), .val (.long q1), .second, .val (.int p2), .unset] [] := by first | (simp [entryFrame, mkF, argsToLocals, Value.category]; done) | rfl
def f_pick (p0 : Int32) (q1 : Int64) (p2 : Int32) : Int32 := (if (((p0.toUInt32 >>> (((2 : Int32) * p2) &&& 31).toUInt32).toInt32) &&& (3 : Int32)) = (0 : Int32) then (nar .byte (10 : Int32)) else (if (((p0.toUInt32 >>> (((2 : Int32) * p2) &&& 31).toUInt32).toInt32) &&& (3 : Int32)) = (1 : Int32) then (nar .byte (13 : Int32)) else (nar .byte ((((q1.toUInt64 >>> (((8 : Int32) * p2) &&& 0x3f).toInt64.toUInt64).toInt64).toInt32).toInt8.toInt32))))
def Q_pick (Z : State) (p0 : Int32) (q1 : Int64) (p2 : Int32) (h0 : Heap) (n0 : Nat) (v : Option Value) (h : Heap) (L : List Loc) : Prop := v = some (.int (f_pick p0 q1 p2)) ∧ Fr n0 L ∧ h = h0
set_option maxRecDepth 65536 in
set_option maxHeartbeats 40000000 in
theorem rm_pick (l : Launch) (Z : State) (a0 : Array Value) (hw : ∀ d ∈ tables_1, d.before a0 Z = true) (ws : List Jvm.Cond) (p0 : Int32) (q1 : Int64) (p2 : Int32) (h0 : Heap) (n0 : Nat) (Z0 : n0 ≤ h0.size) :
    MetFree l (⟨"com/example/elgin/elgin/broker/RequestHeadSkipEmptyLinesPinLaw", "pick", "(IJI)B"⟩ : MethodName) (head1 (Jvm.Cond.code (⟨"com/example/elgin/elgin/broker/RequestHeadSkipEmptyLinesPinLaw", "pick", "(IJI)B"⟩ : MethodName) method_3_code 5 (some .byte) :: ws) ({ frames := 0, cells := 0, slots := 0, locals := 0 } : Room)) (fun a U => a = #[(.int p0), (.long q1), (.int p2)] ∧ Z.Warmed39 U.vm ∧ U.heap = h0) (fun _ _ _ _ _ => True) (fun _ U o U' => ∃ v L, o = .returned v ∧ Q_pick Z p0 q1 p2 h0 n0 v U'.heap L ∧ FrameEnd U o U' L ({ frames := 0, cells := 0, slots := 0, locals := 0 } : Room).cells ({ frames := 0, cells := 0, slots := 0, locals := 0 } : Room).slots) := by
  refine MetFree.of_bodySF (plainFor_of_name pn_pick) hisR ?_
  intro p e s m args below meth c s₁ Bd hml0 hP hK
  obtain ⟨rfl, hZ, hh⟩ := hP
  have hx := Bd.exec
  have hby := Bd.bytes
  have hml : c.maxLocals = 5 := hml0
  have hown : s.vm.findClass "com/example/elgin/elgin/broker/RequestHeadSkipEmptyLinesPinLaw" = some m.cls := findClass_of_methodNamed Bd.named
  have hnm := (name_of_methodNamed Bd.named Bd.method).1
  have X0 : Stand p l e ({ frames := 0, cells := 0, slots := 0, locals := 0 } : Room) s m #[(.int p0), (.long q1), (.int p2)] below meth c s₁ [] 0 0 := Stand.of_body Bd
  have e0 : s₁.heap = h0 := by rw [← hh, Bd.state]; rfl
  have N0 := Fr.nil n0
  have pre0 : ∀ tg, Steps p.tables e below (s₁.setTop (mkF m 0 #[.val (.int p0), .val (.long q1), .second, .val (.int p2), .unset] [])) tg → Steps p.tables e below (s₁.setTop (entryFrame m #[(.int p0), (.long q1), (.int p2)] 5)) tg := fun tg kg => castTop (ef_pick m p0 q1 p2) kg
  obtain ⟨fs, hr, hrun, hended, hW, hsame⟩ := X0.leave (v := some (.int (f_pick p0 q1 p2))) (fun h => by rw [Bd.returns] at h; cases h)
  refine ⟨_, _, pre0 _ ?_, hrun, hended, _, _, rfl, ?_, ⟨_, rfl⟩, hW, hsame.mono (by decide) (by decide)⟩
  · show Steps p.tables e below (s₁.setTop (mkF m 0 #[.val (.int p0), .val (.long q1), .second, .val (.int p2), .unset] [])) _
    refine XS.iloadN X0.here hx rfl (hb hby d1_0) rfl ?_
    show Steps p.tables e below (s₁.setTop (mkF m 1 #[.val (.int p0), .val (.long q1), .second, .val (.int p2), .unset] [(.int p0)])) _
    refine XS.iconst X0.here hx rfl (hb hby d1_1) ?_
    show Steps p.tables e below (s₁.setTop (mkF m 2 #[.val (.int p0), .val (.long q1), .second, .val (.int p2), .unset] [(.int (2 : Int32)), (.int p0)])) _
    refine XS.iloadN X0.here hx rfl (hb hby d1_2) rfl ?_
    show Steps p.tables e below (s₁.setTop (mkF m 3 #[.val (.int p0), .val (.long q1), .second, .val (.int p2), .unset] [(.int p2), (.int (2 : Int32)), (.int p0)])) _
    refine XS.imul X0.here hx rfl (hb hby d1_3) rfl ?_
    show Steps p.tables e below (s₁.setTop (mkF m 4 #[.val (.int p0), .val (.long q1), .second, .val (.int p2), .unset] [(.int ((2 : Int32) * p2)), (.int p0)])) _
    refine XS.iushr X0.here hx rfl (hb hby d1_4) rfl ?_
    show Steps p.tables e below (s₁.setTop (mkF m 5 #[.val (.int p0), .val (.long q1), .second, .val (.int p2), .unset] [(.int ((p0.toUInt32 >>> (((2 : Int32) * p2) &&& 31).toUInt32).toInt32))])) _
    refine XS.iconst X0.here hx rfl (hb hby d1_5) ?_
    show Steps p.tables e below (s₁.setTop (mkF m 6 #[.val (.int p0), .val (.long q1), .second, .val (.int p2), .unset] [(.int (3 : Int32)), (.int ((p0.toUInt32 >>> (((2 : Int32) * p2) &&& 31).toUInt32).toInt32))])) _
    refine XS.iand X0.here hx rfl (hb hby d1_6) rfl ?_
    show Steps p.tables e below (s₁.setTop (mkF m 7 #[.val (.int p0), .val (.long q1), .second, .val (.int p2), .unset] [(.int (((p0.toUInt32 >>> (((2 : Int32) * p2) &&& 31).toUInt32).toInt32) &&& (3 : Int32)))])) _
    refine XS.istore X0.here hx rfl (hb hby d1_7) rfl (l' := #[.val (.int p0), .val (.long q1), .second, .val (.int p2), .val (.int (((p0.toUInt32 >>> (((2 : Int32) * p2) &&& 31).toUInt32).toInt32) &&& (3 : Int32)))]) rfl ?_
    show Steps p.tables e below (s₁.setTop (mkF m 9 #[.val (.int p0), .val (.long q1), .second, .val (.int p2), .val (.int (((p0.toUInt32 >>> (((2 : Int32) * p2) &&& 31).toUInt32).toInt32) &&& (3 : Int32)))] [])) _
    refine XS.iload X0.here hx rfl (hb hby d1_9) rfl ?_
    show Steps p.tables e below (s₁.setTop (mkF m 11 #[.val (.int p0), .val (.long q1), .second, .val (.int p2), .val (.int (((p0.toUInt32 >>> (((2 : Int32) * p2) &&& 31).toUInt32).toInt32) &&& (3 : Int32)))] [(.int (((p0.toUInt32 >>> (((2 : Int32) * p2) &&& 31).toUInt32).toInt32) &&& (3 : Int32)))])) _
    by_cases hc11_0 : (((p0.toUInt32 >>> (((2 : Int32) * p2) &&& 31).toUInt32).toInt32) &&& (3 : Int32)) = (0 : Int32)
    · refine XS.ifNo X0.here hx rfl (hb hby d1_11) rfl ((if0 _ _).trans (teq hc11_0).2) ?_
      show Steps p.tables e below (s₁.setTop (mkF m 14 #[.val (.int p0), .val (.long q1), .second, .val (.int p2), .val (.int (((p0.toUInt32 >>> (((2 : Int32) * p2) &&& 31).toUInt32).toInt32) &&& (3 : Int32)))] [])) _
      refine XS.bipush X0.here hx rfl (hb hby d1_14) ?_
      show Steps p.tables e below (s₁.setTop (mkF m 16 #[.val (.int p0), .val (.long q1), .second, .val (.int p2), .val (.int (((p0.toUInt32 >>> (((2 : Int32) * p2) &&& 31).toUInt32).toInt32) &&& (3 : Int32)))] [(.int (10 : Int32))])) _
      have hf : (f_pick p0 q1 p2) = (nar .byte (10 : Int32)) := by unfold f_pick; rw [if_pos hc11_0]
      rw [hf] at hr
      exact retN X0 hx (t := .byte) Bd.returns (by simp) (hb hby d1_16) hr
    · refine XS.ifYes X0.here hx rfl (pc0 := 11) (pc' := 17) rfl (hb hby d1_11) rfl ((if0 _ _).trans (feq hc11_0).2) (by decide) (by decide) ?_
      show Steps p.tables e below (s₁.setTop (mkF m 17 #[.val (.int p0), .val (.long q1), .second, .val (.int p2), .val (.int (((p0.toUInt32 >>> (((2 : Int32) * p2) &&& 31).toUInt32).toInt32) &&& (3 : Int32)))] [])) _
      refine XS.iload X0.here hx rfl (hb hby d1_17) rfl ?_
      show Steps p.tables e below (s₁.setTop (mkF m 19 #[.val (.int p0), .val (.long q1), .second, .val (.int p2), .val (.int (((p0.toUInt32 >>> (((2 : Int32) * p2) &&& 31).toUInt32).toInt32) &&& (3 : Int32)))] [(.int (((p0.toUInt32 >>> (((2 : Int32) * p2) &&& 31).toUInt32).toInt32) &&& (3 : Int32)))])) _
      refine XS.iconst X0.here hx rfl (hb hby d1_19) ?_
      show Steps p.tables e below (s₁.setTop (mkF m 20 #[.val (.int p0), .val (.long q1), .second, .val (.int p2), .val (.int (((p0.toUInt32 >>> (((2 : Int32) * p2) &&& 31).toUInt32).toInt32) &&& (3 : Int32)))] [(.int (1 : Int32)), (.int (((p0.toUInt32 >>> (((2 : Int32) * p2) &&& 31).toUInt32).toInt32) &&& (3 : Int32)))])) _
      by_cases hc20_1 : (((p0.toUInt32 >>> (((2 : Int32) * p2) &&& 31).toUInt32).toInt32) &&& (3 : Int32)) = (1 : Int32)
      · refine XS.icmpNo X0.here hx rfl (hb hby d1_20) rfl (teq hc20_1).2 ?_
        show Steps p.tables e below (s₁.setTop (mkF m 23 #[.val (.int p0), .val (.long q1), .second, .val (.int p2), .val (.int (((p0.toUInt32 >>> (((2 : Int32) * p2) &&& 31).toUInt32).toInt32) &&& (3 : Int32)))] [])) _
        refine XS.bipush X0.here hx rfl (hb hby d1_23) ?_
        show Steps p.tables e below (s₁.setTop (mkF m 25 #[.val (.int p0), .val (.long q1), .second, .val (.int p2), .val (.int (((p0.toUInt32 >>> (((2 : Int32) * p2) &&& 31).toUInt32).toInt32) &&& (3 : Int32)))] [(.int (13 : Int32))])) _
        have hf : (f_pick p0 q1 p2) = (nar .byte (13 : Int32)) := by unfold f_pick; rw [if_neg hc11_0, if_pos hc20_1]
        rw [hf] at hr
        exact retN X0 hx (t := .byte) Bd.returns (by simp) (hb hby d1_25) hr
      · refine XS.icmpYes X0.here hx rfl (pc0 := 20) (pc' := 26) rfl (hb hby d1_20) rfl (feq hc20_1).2 (by decide) (by decide) ?_
        show Steps p.tables e below (s₁.setTop (mkF m 26 #[.val (.int p0), .val (.long q1), .second, .val (.int p2), .val (.int (((p0.toUInt32 >>> (((2 : Int32) * p2) &&& 31).toUInt32).toInt32) &&& (3 : Int32)))] [])) _
        refine XS.lloadN X0.here hx rfl (hb hby d1_26) rfl ?_
        show Steps p.tables e below (s₁.setTop (mkF m 27 #[.val (.int p0), .val (.long q1), .second, .val (.int p2), .val (.int (((p0.toUInt32 >>> (((2 : Int32) * p2) &&& 31).toUInt32).toInt32) &&& (3 : Int32)))] [(.long q1)])) _
        refine XS.bipush X0.here hx rfl (hb hby d1_27) ?_
        show Steps p.tables e below (s₁.setTop (mkF m 29 #[.val (.int p0), .val (.long q1), .second, .val (.int p2), .val (.int (((p0.toUInt32 >>> (((2 : Int32) * p2) &&& 31).toUInt32).toInt32) &&& (3 : Int32)))] [(.int (8 : Int32)), (.long q1)])) _
        refine XS.iloadN X0.here hx rfl (hb hby d1_29) rfl ?_
        show Steps p.tables e below (s₁.setTop (mkF m 30 #[.val (.int p0), .val (.long q1), .second, .val (.int p2), .val (.int (((p0.toUInt32 >>> (((2 : Int32) * p2) &&& 31).toUInt32).toInt32) &&& (3 : Int32)))] [(.int p2), (.int (8 : Int32)), (.long q1)])) _
        refine XS.imul X0.here hx rfl (hb hby d1_30) rfl ?_
        show Steps p.tables e below (s₁.setTop (mkF m 31 #[.val (.int p0), .val (.long q1), .second, .val (.int p2), .val (.int (((p0.toUInt32 >>> (((2 : Int32) * p2) &&& 31).toUInt32).toInt32) &&& (3 : Int32)))] [(.int ((8 : Int32) * p2)), (.long q1)])) _
        refine XS.lushr X0.here hx rfl (hb hby d1_31) rfl ?_
        show Steps p.tables e below (s₁.setTop (mkF m 32 #[.val (.int p0), .val (.long q1), .second, .val (.int p2), .val (.int (((p0.toUInt32 >>> (((2 : Int32) * p2) &&& 31).toUInt32).toInt32) &&& (3 : Int32)))] [(.long ((q1.toUInt64 >>> (((8 : Int32) * p2) &&& 0x3f).toInt64.toUInt64).toInt64))])) _
        refine XS.l2i X0.here hx rfl (hb hby d1_32) rfl ?_
        show Steps p.tables e below (s₁.setTop (mkF m 33 #[.val (.int p0), .val (.long q1), .second, .val (.int p2), .val (.int (((p0.toUInt32 >>> (((2 : Int32) * p2) &&& 31).toUInt32).toInt32) &&& (3 : Int32)))] [(.int (((q1.toUInt64 >>> (((8 : Int32) * p2) &&& 0x3f).toInt64.toUInt64).toInt64).toInt32))])) _
        refine XS.i2b X0.here hx rfl (hb hby d1_33) rfl ?_
        show Steps p.tables e below (s₁.setTop (mkF m 34 #[.val (.int p0), .val (.long q1), .second, .val (.int p2), .val (.int (((p0.toUInt32 >>> (((2 : Int32) * p2) &&& 31).toUInt32).toInt32) &&& (3 : Int32)))] [(.int ((((q1.toUInt64 >>> (((8 : Int32) * p2) &&& 0x3f).toInt64.toUInt64).toInt64).toInt32).toInt8.toInt32))])) _
        have hf : (f_pick p0 q1 p2) = (nar .byte ((((q1.toUInt64 >>> (((8 : Int32) * p2) &&& 0x3f).toInt64.toUInt64).toInt64).toInt32).toInt8.toInt32)) := by unfold f_pick; rw [if_neg hc11_0, if_neg hc20_1]
        rw [hf] at hr
        exact retN X0 hx (t := .byte) Bd.returns (by simp) (hb hby d1_34) hr
  · show Q_pick Z p0 q1 p2 h0 n0 _ s₁.heap _
    rw [e0]
    exact ⟨rfl, N0, rfl⟩
theorem d2_0 : decode jdk_29_method_69_code 0 = .ok (.iload_n 0, 1) := by decide +kernel
theorem d2_1 : decode jdk_29_method_69_code 1 = .ok (.iload_n 1, 1) := by decide +kernel
theorem d2_2 : decode jdk_29_method_69_code 2 = .ok (.if_icmp .gt 7, 3) := by decide +kernel
theorem d2_5 : decode jdk_29_method_69_code 5 = .ok (.iload_n 0, 1) := by decide +kernel
theorem d2_6 : decode jdk_29_method_69_code 6 = .ok (.goto 4, 3) := by decide +kernel
theorem d2_9 : decode jdk_29_method_69_code 9 = .ok (.iload_n 1, 1) := by decide +kernel
theorem d2_10 : decode jdk_29_method_69_code 10 = .ok (.ireturn, 1) := by decide +kernel
theorem ef_min (m : MethodId) (p0 : Int32) (p1 : Int32) : entryFrame m #[(.int p0), (.int p1)] 2 = mkF m 0 #[.val (.int p0), .val (.int p1)] [] := by first | (simp [entryFrame, mkF, argsToLocals, Value.category]; done) | rfl
def f_min (p0 : Int32) (p1 : Int32) : Int32 := (if p1 < p0 then p1 else p0)
def Q_min (Z : State) (p0 : Int32) (p1 : Int32) (h0 : Heap) (n0 : Nat) (v : Option Value) (h : Heap) (L : List Loc) : Prop := v = some (.int (f_min p0 p1)) ∧ Fr n0 L ∧ h = h0
set_option maxRecDepth 65536 in
set_option maxHeartbeats 40000000 in
theorem rm_min (l : Launch) (Z : State) (a0 : Array Value) (hw : ∀ d ∈ tables_1, d.before a0 Z = true) (ws : List Jvm.Cond) (p0 : Int32) (p1 : Int32) (h0 : Heap) (n0 : Nat) (Z0 : n0 ≤ h0.size) :
    MetFree l (⟨"java/lang/Math", "min", "(II)I"⟩ : MethodName) (head1 (Jvm.Cond.code (⟨"java/lang/Math", "min", "(II)I"⟩ : MethodName) jdk_29_method_69_code 2 (some .int) :: ws) ({ frames := 0, cells := 0, slots := 0, locals := 0 } : Room)) (fun a U => a = #[(.int p0), (.int p1)] ∧ Z.Warmed39 U.vm ∧ U.heap = h0) (fun _ _ _ _ _ => True) (fun _ U o U' => ∃ v L, o = .returned v ∧ Q_min Z p0 p1 h0 n0 v U'.heap L ∧ FrameEnd U o U' L ({ frames := 0, cells := 0, slots := 0, locals := 0 } : Room).cells ({ frames := 0, cells := 0, slots := 0, locals := 0 } : Room).slots) := by
  refine MetFree.of_bodySF (Jvm.Free.JP.mathPlain rfl (by decide +kernel)) hisR ?_
  intro p e s m args below meth c s₁ Bd hml0 hP hK
  obtain ⟨rfl, hZ, hh⟩ := hP
  have hx := Bd.exec
  have hby := Bd.bytes
  have hml : c.maxLocals = 2 := hml0
  have hown : s.vm.findClass "java/lang/Math" = some m.cls := findClass_of_methodNamed Bd.named
  have hnm := (name_of_methodNamed Bd.named Bd.method).1
  have X0 : Stand p l e ({ frames := 0, cells := 0, slots := 0, locals := 0 } : Room) s m #[(.int p0), (.int p1)] below meth c s₁ [] 0 0 := Stand.of_body Bd
  have e0 : s₁.heap = h0 := by rw [← hh, Bd.state]; rfl
  have N0 := Fr.nil n0
  have pre0 : ∀ tg, Steps p.tables e below (s₁.setTop (mkF m 0 #[.val (.int p0), .val (.int p1)] [])) tg → Steps p.tables e below (s₁.setTop (entryFrame m #[(.int p0), (.int p1)] 2)) tg := fun tg kg => castTop (ef_min m p0 p1) kg
  obtain ⟨fs, hr, hrun, hended, hW, hsame⟩ := X0.leave (v := some (.int (f_min p0 p1))) (fun h => by rw [Bd.returns] at h; cases h)
  refine ⟨_, _, pre0 _ ?_, hrun, hended, _, _, rfl, ?_, ⟨_, rfl⟩, hW, hsame.mono (by decide) (by decide)⟩
  · show Steps p.tables e below (s₁.setTop (mkF m 0 #[.val (.int p0), .val (.int p1)] [])) _
    refine XS.iloadN X0.here hx rfl (hb hby d2_0) rfl ?_
    show Steps p.tables e below (s₁.setTop (mkF m 1 #[.val (.int p0), .val (.int p1)] [(.int p0)])) _
    refine XS.iloadN X0.here hx rfl (hb hby d2_1) rfl ?_
    show Steps p.tables e below (s₁.setTop (mkF m 2 #[.val (.int p0), .val (.int p1)] [(.int p1), (.int p0)])) _
    by_cases hc2_0 : p1 < p0
    · refine XS.icmpYes X0.here hx rfl (pc0 := 2) (pc' := 9) rfl (hb hby d2_2) rfl (tlt hc2_0).2.2.1 (by decide) (by decide) ?_
      show Steps p.tables e below (s₁.setTop (mkF m 9 #[.val (.int p0), .val (.int p1)] [])) _
      refine XS.iloadN X0.here hx rfl (hb hby d2_9) rfl ?_
      show Steps p.tables e below (s₁.setTop (mkF m 10 #[.val (.int p0), .val (.int p1)] [(.int p1)])) _
      have hf : (f_min p0 p1) = p1 := by unfold f_min; rw [if_pos hc2_0]
      rw [hf] at hr
      exact retI X0 hx Bd.returns (hb hby d2_10) hr
    · refine XS.icmpNo X0.here hx rfl (hb hby d2_2) rfl (flt hc2_0).2.2.1 ?_
      show Steps p.tables e below (s₁.setTop (mkF m 5 #[.val (.int p0), .val (.int p1)] [])) _
      refine XS.iloadN X0.here hx rfl (hb hby d2_5) rfl ?_
      show Steps p.tables e below (s₁.setTop (mkF m 6 #[.val (.int p0), .val (.int p1)] [(.int p0)])) _
      refine XS.goto X0.here hx rfl (pc0 := 6) (pc' := 10) rfl (hb hby d2_6) (by decide) (by decide) ?_
      show Steps p.tables e below (s₁.setTop (mkF m 10 #[.val (.int p0), .val (.int p1)] [(.int p0)])) _
      have hf : (f_min p0 p1) = p0 := by unfold f_min; rw [if_neg hc2_0]
      rw [hf] at hr
      exact retI X0 hx Bd.returns (hb hby d2_10) hr
  · show Q_min Z p0 p1 h0 n0 _ s₁.heap _
    rw [e0]
    exact ⟨rfl, N0, rfl⟩
theorem d3_0 : decode jdk_29_method_65_code 0 = .ok (.iload_n 0, 1) := by decide +kernel
theorem d3_1 : decode jdk_29_method_65_code 1 = .ok (.iload_n 1, 1) := by decide +kernel
theorem d3_2 : decode jdk_29_method_65_code 2 = .ok (.if_icmp .lt 7, 3) := by decide +kernel
theorem d3_5 : decode jdk_29_method_65_code 5 = .ok (.iload_n 0, 1) := by decide +kernel
theorem d3_6 : decode jdk_29_method_65_code 6 = .ok (.goto 4, 3) := by decide +kernel
theorem d3_9 : decode jdk_29_method_65_code 9 = .ok (.iload_n 1, 1) := by decide +kernel
theorem d3_10 : decode jdk_29_method_65_code 10 = .ok (.ireturn, 1) := by decide +kernel
theorem ef_max (m : MethodId) (p0 : Int32) (p1 : Int32) : entryFrame m #[(.int p0), (.int p1)] 2 = mkF m 0 #[.val (.int p0), .val (.int p1)] [] := by first | (simp [entryFrame, mkF, argsToLocals, Value.category]; done) | rfl
def f_max (p0 : Int32) (p1 : Int32) : Int32 := (if p0 < p1 then p1 else p0)
def Q_max (Z : State) (p0 : Int32) (p1 : Int32) (h0 : Heap) (n0 : Nat) (v : Option Value) (h : Heap) (L : List Loc) : Prop := v = some (.int (f_max p0 p1)) ∧ Fr n0 L ∧ h = h0
set_option maxRecDepth 65536 in
set_option maxHeartbeats 40000000 in
theorem rm_max (l : Launch) (Z : State) (a0 : Array Value) (hw : ∀ d ∈ tables_1, d.before a0 Z = true) (ws : List Jvm.Cond) (p0 : Int32) (p1 : Int32) (h0 : Heap) (n0 : Nat) (Z0 : n0 ≤ h0.size) :
    MetFree l (⟨"java/lang/Math", "max", "(II)I"⟩ : MethodName) (head1 (Jvm.Cond.code (⟨"java/lang/Math", "max", "(II)I"⟩ : MethodName) jdk_29_method_65_code 2 (some .int) :: ws) ({ frames := 0, cells := 0, slots := 0, locals := 0 } : Room)) (fun a U => a = #[(.int p0), (.int p1)] ∧ Z.Warmed39 U.vm ∧ U.heap = h0) (fun _ _ _ _ _ => True) (fun _ U o U' => ∃ v L, o = .returned v ∧ Q_max Z p0 p1 h0 n0 v U'.heap L ∧ FrameEnd U o U' L ({ frames := 0, cells := 0, slots := 0, locals := 0 } : Room).cells ({ frames := 0, cells := 0, slots := 0, locals := 0 } : Room).slots) := by
  refine MetFree.of_bodySF (Jvm.Free.JP.mathPlain rfl (by decide +kernel)) hisR ?_
  intro p e s m args below meth c s₁ Bd hml0 hP hK
  obtain ⟨rfl, hZ, hh⟩ := hP
  have hx := Bd.exec
  have hby := Bd.bytes
  have hml : c.maxLocals = 2 := hml0
  have hown : s.vm.findClass "java/lang/Math" = some m.cls := findClass_of_methodNamed Bd.named
  have hnm := (name_of_methodNamed Bd.named Bd.method).1
  have X0 : Stand p l e ({ frames := 0, cells := 0, slots := 0, locals := 0 } : Room) s m #[(.int p0), (.int p1)] below meth c s₁ [] 0 0 := Stand.of_body Bd
  have e0 : s₁.heap = h0 := by rw [← hh, Bd.state]; rfl
  have N0 := Fr.nil n0
  have pre0 : ∀ tg, Steps p.tables e below (s₁.setTop (mkF m 0 #[.val (.int p0), .val (.int p1)] [])) tg → Steps p.tables e below (s₁.setTop (entryFrame m #[(.int p0), (.int p1)] 2)) tg := fun tg kg => castTop (ef_max m p0 p1) kg
  obtain ⟨fs, hr, hrun, hended, hW, hsame⟩ := X0.leave (v := some (.int (f_max p0 p1))) (fun h => by rw [Bd.returns] at h; cases h)
  refine ⟨_, _, pre0 _ ?_, hrun, hended, _, _, rfl, ?_, ⟨_, rfl⟩, hW, hsame.mono (by decide) (by decide)⟩
  · show Steps p.tables e below (s₁.setTop (mkF m 0 #[.val (.int p0), .val (.int p1)] [])) _
    refine XS.iloadN X0.here hx rfl (hb hby d3_0) rfl ?_
    show Steps p.tables e below (s₁.setTop (mkF m 1 #[.val (.int p0), .val (.int p1)] [(.int p0)])) _
    refine XS.iloadN X0.here hx rfl (hb hby d3_1) rfl ?_
    show Steps p.tables e below (s₁.setTop (mkF m 2 #[.val (.int p0), .val (.int p1)] [(.int p1), (.int p0)])) _
    by_cases hc2_0 : p0 < p1
    · refine XS.icmpYes X0.here hx rfl (pc0 := 2) (pc' := 9) rfl (hb hby d3_2) rfl (tlt hc2_0).1 (by decide) (by decide) ?_
      show Steps p.tables e below (s₁.setTop (mkF m 9 #[.val (.int p0), .val (.int p1)] [])) _
      refine XS.iloadN X0.here hx rfl (hb hby d3_9) rfl ?_
      show Steps p.tables e below (s₁.setTop (mkF m 10 #[.val (.int p0), .val (.int p1)] [(.int p1)])) _
      have hf : (f_max p0 p1) = p1 := by unfold f_max; rw [if_pos hc2_0]
      rw [hf] at hr
      exact retI X0 hx Bd.returns (hb hby d3_10) hr
    · refine XS.icmpNo X0.here hx rfl (hb hby d3_2) rfl (flt hc2_0).1 ?_
      show Steps p.tables e below (s₁.setTop (mkF m 5 #[.val (.int p0), .val (.int p1)] [])) _
      refine XS.iloadN X0.here hx rfl (hb hby d3_5) rfl ?_
      show Steps p.tables e below (s₁.setTop (mkF m 6 #[.val (.int p0), .val (.int p1)] [(.int p0)])) _
      refine XS.goto X0.here hx rfl (pc0 := 6) (pc' := 10) rfl (hb hby d3_6) (by decide) (by decide) ?_
      show Steps p.tables e below (s₁.setTop (mkF m 10 #[.val (.int p0), .val (.int p1)] [(.int p0)])) _
      have hf : (f_max p0 p1) = p0 := by unfold f_max; rw [if_neg hc2_0]
      rw [hf] at hr
      exact retI X0 hx Bd.returns (hb hby d3_10) hr
  · show Q_max Z p0 p1 h0 n0 _ s₁.heap _
    rw [e0]
    exact ⟨rfl, N0, rfl⟩
theorem own_min {a b : Nat} (ha : a ≤ 5) (hb : b ≤ 5) : f_min (Int32.ofNat a) (Int32.ofNat b) = Int32.ofNat (min a b) := by
  unfold f_min
  have h := own_lt (i := b) (n := a) (by omega) (by omega)
  split
  · rename_i q; rw [h] at q; rw [show min a b = b by omega]
  · rename_i q; rw [h] at q; rw [show min a b = a by omega]
theorem own_max {a b : Nat} (ha : a ≤ 5) (hb : b ≤ 5) : f_max (Int32.ofNat a) (Int32.ofNat b) = Int32.ofNat (max a b) := by
  unfold f_max
  have h := own_lt (i := a) (n := b) (by omega) (by omega)
  split
  · rename_i q; rw [h] at q; rw [show max a b = b by omega]
  · rename_i q; rw [h] at q; rw [show max a b = a by omega]
theorem d4_0 : decode prog_16_method_2_code 0 = .ok (.iload_n 1, 1) := by decide +kernel
theorem d4_1 : decode prog_16_method_2_code 1 = .ok (.istore_n 3, 1) := by decide +kernel
theorem d4_2 : decode prog_16_method_2_code 2 = .ok (.iload_n 3, 1) := by decide +kernel
theorem d4_3 : decode prog_16_method_2_code 3 = .ok (.iload_n 2, 1) := by decide +kernel
theorem d4_4 : decode prog_16_method_2_code 4 = .ok (.if_icmp .ge 48, 3) := by decide +kernel
theorem d4_7 : decode prog_16_method_2_code 7 = .ok (.aload_n 0, 1) := by decide +kernel
theorem d4_8 : decode prog_16_method_2_code 8 = .ok (.iload_n 3, 1) := by decide +kernel
theorem d4_9 : decode prog_16_method_2_code 9 = .ok (.baload, 1) := by decide +kernel
theorem d4_10 : decode prog_16_method_2_code 10 = .ok (.bipush 10, 2) := by decide +kernel
theorem d4_12 : decode prog_16_method_2_code 12 = .ok (.if_icmp .ne 9, 3) := by decide +kernel
theorem d4_15 : decode prog_16_method_2_code 15 = .ok (.iinc 3 1, 3) := by decide +kernel
theorem d4_18 : decode prog_16_method_2_code 18 = .ok (.goto (-16), 3) := by decide +kernel
theorem d4_21 : decode prog_16_method_2_code 21 = .ok (.aload_n 0, 1) := by decide +kernel
theorem d4_22 : decode prog_16_method_2_code 22 = .ok (.iload_n 3, 1) := by decide +kernel
theorem d4_23 : decode prog_16_method_2_code 23 = .ok (.baload, 1) := by decide +kernel
theorem d4_24 : decode prog_16_method_2_code 24 = .ok (.bipush 13, 2) := by decide +kernel
theorem d4_26 : decode prog_16_method_2_code 26 = .ok (.if_icmp .ne 26, 3) := by decide +kernel
theorem d4_29 : decode prog_16_method_2_code 29 = .ok (.iload_n 3, 1) := by decide +kernel
theorem d4_30 : decode prog_16_method_2_code 30 = .ok (.iconst 1, 1) := by decide +kernel
theorem d4_31 : decode prog_16_method_2_code 31 = .ok (.iadd, 1) := by decide +kernel
theorem d4_32 : decode prog_16_method_2_code 32 = .ok (.iload_n 2, 1) := by decide +kernel
theorem d4_33 : decode prog_16_method_2_code 33 = .ok (.if_icmp .ge 19, 3) := by decide +kernel
theorem d4_36 : decode prog_16_method_2_code 36 = .ok (.aload_n 0, 1) := by decide +kernel
theorem d4_37 : decode prog_16_method_2_code 37 = .ok (.iload_n 3, 1) := by decide +kernel
theorem d4_38 : decode prog_16_method_2_code 38 = .ok (.iconst 1, 1) := by decide +kernel
theorem d4_39 : decode prog_16_method_2_code 39 = .ok (.iadd, 1) := by decide +kernel
theorem d4_40 : decode prog_16_method_2_code 40 = .ok (.baload, 1) := by decide +kernel
theorem d4_41 : decode prog_16_method_2_code 41 = .ok (.bipush 10, 2) := by decide +kernel
theorem d4_43 : decode prog_16_method_2_code 43 = .ok (.if_icmp .ne 9, 3) := by decide +kernel
theorem d4_46 : decode prog_16_method_2_code 46 = .ok (.iinc 3 2, 3) := by decide +kernel
theorem d4_49 : decode prog_16_method_2_code 49 = .ok (.goto (-47), 3) := by decide +kernel
theorem d4_52 : decode prog_16_method_2_code 52 = .ok (.iload_n 3, 1) := by decide +kernel
theorem d4_53 : decode prog_16_method_2_code 53 = .ok (.ireturn, 1) := by decide +kernel
theorem pn_skip : plainName "com/example/elgin/elgin/broker/RequestHead" = true := by first | (simp [plainName, overriddenIn]; done) | decide +kernel
theorem ef_skip (m : MethodId) (o0 : Addr) (p1 : Int32) (p2 : Int32) : entryFrame m #[(.ref o0), (.int p1), (.int p2)] 4 = mkF m 0 #[.val (.ref o0), .val (.int p1), .val (.int p2), .unset] [] := by first | (simp [entryFrame, mkF, argsToLocals, Value.category]; done) | rfl
set_option maxRecDepth 65536 in
set_option maxHeartbeats 40000000 in
theorem own_loop {p : Program} {l : Launch} {e : Env} {R : Room} {s : State} {m : MethodId} {args : Array Value} {below : List Frame} {meth : Method} {c : Code} {T0 : State} {locs : List Loc} {cells slots : Nat} {Z : State} {h0 : Heap} (o0 : Addr) (p1 : Int32) (t : Nat) (G : Nat → Int32) (cl : Cell) (ht : t ≤ 5)
    (X0 : Stand p l e R s m args below meth c T0 locs cells slots) (hx : p.tables.exec = Jvm.exec) (hZ : Z.Warmed39 s.vm) (hby : c.code = prog_16_method_2_code) (e0 : T0.heap = h0) (Ar : Arr Z h0 o0 cl .byte) (hsz : cl.slots.size = 5) (hat : ∀ j, j < 5 → cl.slots[j]? = some (.int (G j))) :
    ∀ (k i : Nat), t - i ≤ k → i ≤ t → ∃ r, own_run G t i r ∧ ∀ target, Steps p.tables e below (T0.setTop (mkF m 52 #[.val (.ref o0), .val (.int p1), .val (.int (Int32.ofNat t)), .val (.int (Int32.ofNat r))] [])) target → Steps p.tables e below (T0.setTop (mkF m 2 #[.val (.ref o0), .val (.int p1), .val (.int (Int32.ofNat t)), .val (.int (Int32.ofNat i))] [])) target := by
  intro k
  induction k with
  | zero =>
    intro i hk hi
    have h1 : ¬ i < t := by omega
    refine ⟨i, ⟨Nat.le_refl _, by omega, fun j h1 h2 => by omega, Or.inl (by omega)⟩, fun target kt => ?_⟩
    show Steps p.tables e below (T0.setTop (mkF m 2 #[.val (.ref o0), .val (.int p1), .val (.int (Int32.ofNat t)), .val (.int (Int32.ofNat i))] [])) _
    refine XS.iloadN X0.here hx rfl (hb hby d4_2) rfl ?_
    show Steps p.tables e below (T0.setTop (mkF m 3 #[.val (.ref o0), .val (.int p1), .val (.int (Int32.ofNat t)), .val (.int (Int32.ofNat i))] [(.int (Int32.ofNat i))])) _
    refine XS.iloadN X0.here hx rfl (hb hby d4_3) rfl ?_
    show Steps p.tables e below (T0.setTop (mkF m 4 #[.val (.ref o0), .val (.int p1), .val (.int (Int32.ofNat t)), .val (.int (Int32.ofNat i))] [(.int (Int32.ofNat t)), (.int (Int32.ofNat i))])) _
    refine XS.icmpYes X0.here hx rfl (pc0 := 4) (pc' := 52) rfl (hb hby d4_4) rfl (flt (fun q => h1 ((own_lt (by omega) (by omega)).mp q))).2.1 (by decide) (by decide) ?_
    exact kt
  | succ k ih =>
    intro i hk hi
    by_cases h1 : i < t
    · by_cases h2 : (G i) = (10 : Int32)
      · obtain ⟨r, ⟨r1, r2, r3, r4⟩, st⟩ := ih (i + 1) (by omega) (by omega)
        refine ⟨r, ⟨by omega, r2, fun j j1 j2 => ?_, r4⟩, fun target kt => ?_⟩
        · by_cases q : i = j
          · subst q; exact Or.inl h2
          · exact r3 j (by omega) j2
        · show Steps p.tables e below (T0.setTop (mkF m 2 #[.val (.ref o0), .val (.int p1), .val (.int (Int32.ofNat t)), .val (.int (Int32.ofNat i))] [])) _
          refine XS.iloadN X0.here hx rfl (hb hby d4_2) rfl ?_
          show Steps p.tables e below (T0.setTop (mkF m 3 #[.val (.ref o0), .val (.int p1), .val (.int (Int32.ofNat t)), .val (.int (Int32.ofNat i))] [(.int (Int32.ofNat i))])) _
          refine XS.iloadN X0.here hx rfl (hb hby d4_3) rfl ?_
          show Steps p.tables e below (T0.setTop (mkF m 4 #[.val (.ref o0), .val (.int p1), .val (.int (Int32.ofNat t)), .val (.int (Int32.ofNat i))] [(.int (Int32.ofNat t)), (.int (Int32.ofNat i))])) _
          refine XS.icmpNo X0.here hx rfl (hb hby d4_4) rfl (tlt ((own_lt (by omega) (by omega)).mpr h1)).2.1 ?_
          show Steps p.tables e below (T0.setTop (mkF m 7 #[.val (.ref o0), .val (.int p1), .val (.int (Int32.ofNat t)), .val (.int (Int32.ofNat i))] [])) _
          refine XS.aloadN X0.here hx rfl (hb hby d4_7) rfl rfl ?_
          show Steps p.tables e below (T0.setTop (mkF m 8 #[.val (.ref o0), .val (.int p1), .val (.int (Int32.ofNat t)), .val (.int (Int32.ofNat i))] [(.ref o0)])) _
          refine XS.iloadN X0.here hx rfl (hb hby d4_8) rfl ?_
          show Steps p.tables e below (T0.setTop (mkF m 9 #[.val (.ref o0), .val (.int p1), .val (.int (Int32.ofNat t)), .val (.int (Int32.ofNat i))] [(.int (Int32.ofNat i)), (.ref o0)])) _
          refine X0.baloadBytes hx (j := (Int32.ofNat i)) (v := (.int (G i))) (by rw [e0]; exact Ar.1) (State.isArrayOf_alike hZ.alike Ar.2.1) Ar.2.2 (own_in hsz (by omega)) (own_at hat (by omega)) (g := (mkF m 9 #[.val (.ref o0), .val (.int p1), .val (.int (Int32.ofNat t)), .val (.int (Int32.ofNat i))] [(.int (Int32.ofNat i)), (.ref o0)])) rfl rfl (hb hby d4_9) _ ?_
          show Steps p.tables e below (T0.setTop (mkF m 10 #[.val (.ref o0), .val (.int p1), .val (.int (Int32.ofNat t)), .val (.int (Int32.ofNat i))] [(.int (G i))])) _
          refine XS.bipush X0.here hx rfl (hb hby d4_10) ?_
          show Steps p.tables e below (T0.setTop (mkF m 12 #[.val (.ref o0), .val (.int p1), .val (.int (Int32.ofNat t)), .val (.int (Int32.ofNat i))] [(.int (10 : Int32)), (.int (G i))])) _
          refine XS.icmpNo X0.here hx rfl (hb hby d4_12) rfl (teq h2).2 ?_
          show Steps p.tables e below (T0.setTop (mkF m 15 #[.val (.ref o0), .val (.int p1), .val (.int (Int32.ofNat t)), .val (.int (Int32.ofNat i))] [])) _
          refine XS.iinc X0.here hx rfl (hb hby d4_15) rfl (l' := #[.val (.ref o0), .val (.int p1), .val (.int (Int32.ofNat t)), .val (.int ((Int32.ofNat i) + (1 : Int32)))]) rfl ?_
          rw [own_one]
          show Steps p.tables e below (T0.setTop (mkF m 18 #[.val (.ref o0), .val (.int p1), .val (.int (Int32.ofNat t)), .val (.int (Int32.ofNat (i + 1)))] [])) _
          refine XS.goto X0.here hx rfl (pc0 := 18) (pc' := 2) rfl (hb hby d4_18) (by decide) (by decide) ?_
          exact st target kt
      · by_cases h3 : (G i) = (13 : Int32)
        · by_cases h4 : (i + 1) < t
          · by_cases h5 : (G (i + 1)) = (10 : Int32)
            · obtain ⟨r, ⟨r1, r2, r3, r4⟩, st⟩ := ih (i + 2) (by omega) (by omega)
              refine ⟨r, ⟨by omega, r2, fun j j1 j2 => ?_, r4⟩, fun target kt => ?_⟩
              · by_cases q : i = j
                · subst q; exact Or.inr ⟨h3, by omega, h5⟩
                · by_cases q' : i + 1 = j
                  · subst q'; exact Or.inl h5
                  · exact r3 j (by omega) j2
              · show Steps p.tables e below (T0.setTop (mkF m 2 #[.val (.ref o0), .val (.int p1), .val (.int (Int32.ofNat t)), .val (.int (Int32.ofNat i))] [])) _
                refine XS.iloadN X0.here hx rfl (hb hby d4_2) rfl ?_
                show Steps p.tables e below (T0.setTop (mkF m 3 #[.val (.ref o0), .val (.int p1), .val (.int (Int32.ofNat t)), .val (.int (Int32.ofNat i))] [(.int (Int32.ofNat i))])) _
                refine XS.iloadN X0.here hx rfl (hb hby d4_3) rfl ?_
                show Steps p.tables e below (T0.setTop (mkF m 4 #[.val (.ref o0), .val (.int p1), .val (.int (Int32.ofNat t)), .val (.int (Int32.ofNat i))] [(.int (Int32.ofNat t)), (.int (Int32.ofNat i))])) _
                refine XS.icmpNo X0.here hx rfl (hb hby d4_4) rfl (tlt ((own_lt (by omega) (by omega)).mpr h1)).2.1 ?_
                show Steps p.tables e below (T0.setTop (mkF m 7 #[.val (.ref o0), .val (.int p1), .val (.int (Int32.ofNat t)), .val (.int (Int32.ofNat i))] [])) _
                refine XS.aloadN X0.here hx rfl (hb hby d4_7) rfl rfl ?_
                show Steps p.tables e below (T0.setTop (mkF m 8 #[.val (.ref o0), .val (.int p1), .val (.int (Int32.ofNat t)), .val (.int (Int32.ofNat i))] [(.ref o0)])) _
                refine XS.iloadN X0.here hx rfl (hb hby d4_8) rfl ?_
                show Steps p.tables e below (T0.setTop (mkF m 9 #[.val (.ref o0), .val (.int p1), .val (.int (Int32.ofNat t)), .val (.int (Int32.ofNat i))] [(.int (Int32.ofNat i)), (.ref o0)])) _
                refine X0.baloadBytes hx (j := (Int32.ofNat i)) (v := (.int (G i))) (by rw [e0]; exact Ar.1) (State.isArrayOf_alike hZ.alike Ar.2.1) Ar.2.2 (own_in hsz (by omega)) (own_at hat (by omega)) (g := (mkF m 9 #[.val (.ref o0), .val (.int p1), .val (.int (Int32.ofNat t)), .val (.int (Int32.ofNat i))] [(.int (Int32.ofNat i)), (.ref o0)])) rfl rfl (hb hby d4_9) _ ?_
                show Steps p.tables e below (T0.setTop (mkF m 10 #[.val (.ref o0), .val (.int p1), .val (.int (Int32.ofNat t)), .val (.int (Int32.ofNat i))] [(.int (G i))])) _
                refine XS.bipush X0.here hx rfl (hb hby d4_10) ?_
                show Steps p.tables e below (T0.setTop (mkF m 12 #[.val (.ref o0), .val (.int p1), .val (.int (Int32.ofNat t)), .val (.int (Int32.ofNat i))] [(.int (10 : Int32)), (.int (G i))])) _
                refine XS.icmpYes X0.here hx rfl (pc0 := 12) (pc' := 21) rfl (hb hby d4_12) rfl (feq h2).2 (by decide) (by decide) ?_
                show Steps p.tables e below (T0.setTop (mkF m 21 #[.val (.ref o0), .val (.int p1), .val (.int (Int32.ofNat t)), .val (.int (Int32.ofNat i))] [])) _
                refine XS.aloadN X0.here hx rfl (hb hby d4_21) rfl rfl ?_
                show Steps p.tables e below (T0.setTop (mkF m 22 #[.val (.ref o0), .val (.int p1), .val (.int (Int32.ofNat t)), .val (.int (Int32.ofNat i))] [(.ref o0)])) _
                refine XS.iloadN X0.here hx rfl (hb hby d4_22) rfl ?_
                show Steps p.tables e below (T0.setTop (mkF m 23 #[.val (.ref o0), .val (.int p1), .val (.int (Int32.ofNat t)), .val (.int (Int32.ofNat i))] [(.int (Int32.ofNat i)), (.ref o0)])) _
                refine X0.baloadBytes hx (j := (Int32.ofNat i)) (v := (.int (G i))) (by rw [e0]; exact Ar.1) (State.isArrayOf_alike hZ.alike Ar.2.1) Ar.2.2 (own_in hsz (by omega)) (own_at hat (by omega)) (g := (mkF m 23 #[.val (.ref o0), .val (.int p1), .val (.int (Int32.ofNat t)), .val (.int (Int32.ofNat i))] [(.int (Int32.ofNat i)), (.ref o0)])) rfl rfl (hb hby d4_23) _ ?_
                show Steps p.tables e below (T0.setTop (mkF m 24 #[.val (.ref o0), .val (.int p1), .val (.int (Int32.ofNat t)), .val (.int (Int32.ofNat i))] [(.int (G i))])) _
                refine XS.bipush X0.here hx rfl (hb hby d4_24) ?_
                show Steps p.tables e below (T0.setTop (mkF m 26 #[.val (.ref o0), .val (.int p1), .val (.int (Int32.ofNat t)), .val (.int (Int32.ofNat i))] [(.int (13 : Int32)), (.int (G i))])) _
                refine XS.icmpNo X0.here hx rfl (hb hby d4_26) rfl (teq h3).2 ?_
                show Steps p.tables e below (T0.setTop (mkF m 29 #[.val (.ref o0), .val (.int p1), .val (.int (Int32.ofNat t)), .val (.int (Int32.ofNat i))] [])) _
                refine XS.iloadN X0.here hx rfl (hb hby d4_29) rfl ?_
                show Steps p.tables e below (T0.setTop (mkF m 30 #[.val (.ref o0), .val (.int p1), .val (.int (Int32.ofNat t)), .val (.int (Int32.ofNat i))] [(.int (Int32.ofNat i))])) _
                refine XS.iconst X0.here hx rfl (hb hby d4_30) ?_
                show Steps p.tables e below (T0.setTop (mkF m 31 #[.val (.ref o0), .val (.int p1), .val (.int (Int32.ofNat t)), .val (.int (Int32.ofNat i))] [(.int (1 : Int32)), (.int (Int32.ofNat i))])) _
                refine XS.iadd X0.here hx rfl (hb hby d4_31) rfl ?_
                rw [own_one]
                show Steps p.tables e below (T0.setTop (mkF m 32 #[.val (.ref o0), .val (.int p1), .val (.int (Int32.ofNat t)), .val (.int (Int32.ofNat i))] [(.int (Int32.ofNat (i + 1)))])) _
                refine XS.iloadN X0.here hx rfl (hb hby d4_32) rfl ?_
                show Steps p.tables e below (T0.setTop (mkF m 33 #[.val (.ref o0), .val (.int p1), .val (.int (Int32.ofNat t)), .val (.int (Int32.ofNat i))] [(.int (Int32.ofNat t)), (.int (Int32.ofNat (i + 1)))])) _
                refine XS.icmpNo X0.here hx rfl (hb hby d4_33) rfl (tlt ((own_lt (by omega) (by omega)).mpr h4)).2.1 ?_
                show Steps p.tables e below (T0.setTop (mkF m 36 #[.val (.ref o0), .val (.int p1), .val (.int (Int32.ofNat t)), .val (.int (Int32.ofNat i))] [])) _
                refine XS.aloadN X0.here hx rfl (hb hby d4_36) rfl rfl ?_
                show Steps p.tables e below (T0.setTop (mkF m 37 #[.val (.ref o0), .val (.int p1), .val (.int (Int32.ofNat t)), .val (.int (Int32.ofNat i))] [(.ref o0)])) _
                refine XS.iloadN X0.here hx rfl (hb hby d4_37) rfl ?_
                show Steps p.tables e below (T0.setTop (mkF m 38 #[.val (.ref o0), .val (.int p1), .val (.int (Int32.ofNat t)), .val (.int (Int32.ofNat i))] [(.int (Int32.ofNat i)), (.ref o0)])) _
                refine XS.iconst X0.here hx rfl (hb hby d4_38) ?_
                show Steps p.tables e below (T0.setTop (mkF m 39 #[.val (.ref o0), .val (.int p1), .val (.int (Int32.ofNat t)), .val (.int (Int32.ofNat i))] [(.int (1 : Int32)), (.int (Int32.ofNat i)), (.ref o0)])) _
                refine XS.iadd X0.here hx rfl (hb hby d4_39) rfl ?_
                rw [own_one]
                show Steps p.tables e below (T0.setTop (mkF m 40 #[.val (.ref o0), .val (.int p1), .val (.int (Int32.ofNat t)), .val (.int (Int32.ofNat i))] [(.int (Int32.ofNat (i + 1))), (.ref o0)])) _
                refine X0.baloadBytes hx (j := (Int32.ofNat (i + 1))) (v := (.int (G (i + 1)))) (by rw [e0]; exact Ar.1) (State.isArrayOf_alike hZ.alike Ar.2.1) Ar.2.2 (own_in hsz (by omega)) (own_at hat (by omega)) (g := (mkF m 40 #[.val (.ref o0), .val (.int p1), .val (.int (Int32.ofNat t)), .val (.int (Int32.ofNat i))] [(.int (Int32.ofNat (i + 1))), (.ref o0)])) rfl rfl (hb hby d4_40) _ ?_
                show Steps p.tables e below (T0.setTop (mkF m 41 #[.val (.ref o0), .val (.int p1), .val (.int (Int32.ofNat t)), .val (.int (Int32.ofNat i))] [(.int (G (i + 1)))])) _
                refine XS.bipush X0.here hx rfl (hb hby d4_41) ?_
                show Steps p.tables e below (T0.setTop (mkF m 43 #[.val (.ref o0), .val (.int p1), .val (.int (Int32.ofNat t)), .val (.int (Int32.ofNat i))] [(.int (10 : Int32)), (.int (G (i + 1)))])) _
                refine XS.icmpNo X0.here hx rfl (hb hby d4_43) rfl (teq h5).2 ?_
                show Steps p.tables e below (T0.setTop (mkF m 46 #[.val (.ref o0), .val (.int p1), .val (.int (Int32.ofNat t)), .val (.int (Int32.ofNat i))] [])) _
                refine XS.iinc X0.here hx rfl (hb hby d4_46) rfl (l' := #[.val (.ref o0), .val (.int p1), .val (.int (Int32.ofNat t)), .val (.int ((Int32.ofNat i) + (2 : Int32)))]) rfl ?_
                rw [own_two]
                show Steps p.tables e below (T0.setTop (mkF m 49 #[.val (.ref o0), .val (.int p1), .val (.int (Int32.ofNat t)), .val (.int (Int32.ofNat (i + 2)))] [])) _
                refine XS.goto X0.here hx rfl (pc0 := 49) (pc' := 2) rfl (hb hby d4_49) (by decide) (by decide) ?_
                exact st target kt
            · refine ⟨i, ⟨Nat.le_refl _, by omega, fun j h1 h2 => by omega, Or.inr (fun q => q.elim h2 (fun q => h5 q.2.2))⟩, fun target kt => ?_⟩
              show Steps p.tables e below (T0.setTop (mkF m 2 #[.val (.ref o0), .val (.int p1), .val (.int (Int32.ofNat t)), .val (.int (Int32.ofNat i))] [])) _
              refine XS.iloadN X0.here hx rfl (hb hby d4_2) rfl ?_
              show Steps p.tables e below (T0.setTop (mkF m 3 #[.val (.ref o0), .val (.int p1), .val (.int (Int32.ofNat t)), .val (.int (Int32.ofNat i))] [(.int (Int32.ofNat i))])) _
              refine XS.iloadN X0.here hx rfl (hb hby d4_3) rfl ?_
              show Steps p.tables e below (T0.setTop (mkF m 4 #[.val (.ref o0), .val (.int p1), .val (.int (Int32.ofNat t)), .val (.int (Int32.ofNat i))] [(.int (Int32.ofNat t)), (.int (Int32.ofNat i))])) _
              refine XS.icmpNo X0.here hx rfl (hb hby d4_4) rfl (tlt ((own_lt (by omega) (by omega)).mpr h1)).2.1 ?_
              show Steps p.tables e below (T0.setTop (mkF m 7 #[.val (.ref o0), .val (.int p1), .val (.int (Int32.ofNat t)), .val (.int (Int32.ofNat i))] [])) _
              refine XS.aloadN X0.here hx rfl (hb hby d4_7) rfl rfl ?_
              show Steps p.tables e below (T0.setTop (mkF m 8 #[.val (.ref o0), .val (.int p1), .val (.int (Int32.ofNat t)), .val (.int (Int32.ofNat i))] [(.ref o0)])) _
              refine XS.iloadN X0.here hx rfl (hb hby d4_8) rfl ?_
              show Steps p.tables e below (T0.setTop (mkF m 9 #[.val (.ref o0), .val (.int p1), .val (.int (Int32.ofNat t)), .val (.int (Int32.ofNat i))] [(.int (Int32.ofNat i)), (.ref o0)])) _
              refine X0.baloadBytes hx (j := (Int32.ofNat i)) (v := (.int (G i))) (by rw [e0]; exact Ar.1) (State.isArrayOf_alike hZ.alike Ar.2.1) Ar.2.2 (own_in hsz (by omega)) (own_at hat (by omega)) (g := (mkF m 9 #[.val (.ref o0), .val (.int p1), .val (.int (Int32.ofNat t)), .val (.int (Int32.ofNat i))] [(.int (Int32.ofNat i)), (.ref o0)])) rfl rfl (hb hby d4_9) _ ?_
              show Steps p.tables e below (T0.setTop (mkF m 10 #[.val (.ref o0), .val (.int p1), .val (.int (Int32.ofNat t)), .val (.int (Int32.ofNat i))] [(.int (G i))])) _
              refine XS.bipush X0.here hx rfl (hb hby d4_10) ?_
              show Steps p.tables e below (T0.setTop (mkF m 12 #[.val (.ref o0), .val (.int p1), .val (.int (Int32.ofNat t)), .val (.int (Int32.ofNat i))] [(.int (10 : Int32)), (.int (G i))])) _
              refine XS.icmpYes X0.here hx rfl (pc0 := 12) (pc' := 21) rfl (hb hby d4_12) rfl (feq h2).2 (by decide) (by decide) ?_
              show Steps p.tables e below (T0.setTop (mkF m 21 #[.val (.ref o0), .val (.int p1), .val (.int (Int32.ofNat t)), .val (.int (Int32.ofNat i))] [])) _
              refine XS.aloadN X0.here hx rfl (hb hby d4_21) rfl rfl ?_
              show Steps p.tables e below (T0.setTop (mkF m 22 #[.val (.ref o0), .val (.int p1), .val (.int (Int32.ofNat t)), .val (.int (Int32.ofNat i))] [(.ref o0)])) _
              refine XS.iloadN X0.here hx rfl (hb hby d4_22) rfl ?_
              show Steps p.tables e below (T0.setTop (mkF m 23 #[.val (.ref o0), .val (.int p1), .val (.int (Int32.ofNat t)), .val (.int (Int32.ofNat i))] [(.int (Int32.ofNat i)), (.ref o0)])) _
              refine X0.baloadBytes hx (j := (Int32.ofNat i)) (v := (.int (G i))) (by rw [e0]; exact Ar.1) (State.isArrayOf_alike hZ.alike Ar.2.1) Ar.2.2 (own_in hsz (by omega)) (own_at hat (by omega)) (g := (mkF m 23 #[.val (.ref o0), .val (.int p1), .val (.int (Int32.ofNat t)), .val (.int (Int32.ofNat i))] [(.int (Int32.ofNat i)), (.ref o0)])) rfl rfl (hb hby d4_23) _ ?_
              show Steps p.tables e below (T0.setTop (mkF m 24 #[.val (.ref o0), .val (.int p1), .val (.int (Int32.ofNat t)), .val (.int (Int32.ofNat i))] [(.int (G i))])) _
              refine XS.bipush X0.here hx rfl (hb hby d4_24) ?_
              show Steps p.tables e below (T0.setTop (mkF m 26 #[.val (.ref o0), .val (.int p1), .val (.int (Int32.ofNat t)), .val (.int (Int32.ofNat i))] [(.int (13 : Int32)), (.int (G i))])) _
              refine XS.icmpNo X0.here hx rfl (hb hby d4_26) rfl (teq h3).2 ?_
              show Steps p.tables e below (T0.setTop (mkF m 29 #[.val (.ref o0), .val (.int p1), .val (.int (Int32.ofNat t)), .val (.int (Int32.ofNat i))] [])) _
              refine XS.iloadN X0.here hx rfl (hb hby d4_29) rfl ?_
              show Steps p.tables e below (T0.setTop (mkF m 30 #[.val (.ref o0), .val (.int p1), .val (.int (Int32.ofNat t)), .val (.int (Int32.ofNat i))] [(.int (Int32.ofNat i))])) _
              refine XS.iconst X0.here hx rfl (hb hby d4_30) ?_
              show Steps p.tables e below (T0.setTop (mkF m 31 #[.val (.ref o0), .val (.int p1), .val (.int (Int32.ofNat t)), .val (.int (Int32.ofNat i))] [(.int (1 : Int32)), (.int (Int32.ofNat i))])) _
              refine XS.iadd X0.here hx rfl (hb hby d4_31) rfl ?_
              rw [own_one]
              show Steps p.tables e below (T0.setTop (mkF m 32 #[.val (.ref o0), .val (.int p1), .val (.int (Int32.ofNat t)), .val (.int (Int32.ofNat i))] [(.int (Int32.ofNat (i + 1)))])) _
              refine XS.iloadN X0.here hx rfl (hb hby d4_32) rfl ?_
              show Steps p.tables e below (T0.setTop (mkF m 33 #[.val (.ref o0), .val (.int p1), .val (.int (Int32.ofNat t)), .val (.int (Int32.ofNat i))] [(.int (Int32.ofNat t)), (.int (Int32.ofNat (i + 1)))])) _
              refine XS.icmpNo X0.here hx rfl (hb hby d4_33) rfl (tlt ((own_lt (by omega) (by omega)).mpr h4)).2.1 ?_
              show Steps p.tables e below (T0.setTop (mkF m 36 #[.val (.ref o0), .val (.int p1), .val (.int (Int32.ofNat t)), .val (.int (Int32.ofNat i))] [])) _
              refine XS.aloadN X0.here hx rfl (hb hby d4_36) rfl rfl ?_
              show Steps p.tables e below (T0.setTop (mkF m 37 #[.val (.ref o0), .val (.int p1), .val (.int (Int32.ofNat t)), .val (.int (Int32.ofNat i))] [(.ref o0)])) _
              refine XS.iloadN X0.here hx rfl (hb hby d4_37) rfl ?_
              show Steps p.tables e below (T0.setTop (mkF m 38 #[.val (.ref o0), .val (.int p1), .val (.int (Int32.ofNat t)), .val (.int (Int32.ofNat i))] [(.int (Int32.ofNat i)), (.ref o0)])) _
              refine XS.iconst X0.here hx rfl (hb hby d4_38) ?_
              show Steps p.tables e below (T0.setTop (mkF m 39 #[.val (.ref o0), .val (.int p1), .val (.int (Int32.ofNat t)), .val (.int (Int32.ofNat i))] [(.int (1 : Int32)), (.int (Int32.ofNat i)), (.ref o0)])) _
              refine XS.iadd X0.here hx rfl (hb hby d4_39) rfl ?_
              rw [own_one]
              show Steps p.tables e below (T0.setTop (mkF m 40 #[.val (.ref o0), .val (.int p1), .val (.int (Int32.ofNat t)), .val (.int (Int32.ofNat i))] [(.int (Int32.ofNat (i + 1))), (.ref o0)])) _
              refine X0.baloadBytes hx (j := (Int32.ofNat (i + 1))) (v := (.int (G (i + 1)))) (by rw [e0]; exact Ar.1) (State.isArrayOf_alike hZ.alike Ar.2.1) Ar.2.2 (own_in hsz (by omega)) (own_at hat (by omega)) (g := (mkF m 40 #[.val (.ref o0), .val (.int p1), .val (.int (Int32.ofNat t)), .val (.int (Int32.ofNat i))] [(.int (Int32.ofNat (i + 1))), (.ref o0)])) rfl rfl (hb hby d4_40) _ ?_
              show Steps p.tables e below (T0.setTop (mkF m 41 #[.val (.ref o0), .val (.int p1), .val (.int (Int32.ofNat t)), .val (.int (Int32.ofNat i))] [(.int (G (i + 1)))])) _
              refine XS.bipush X0.here hx rfl (hb hby d4_41) ?_
              show Steps p.tables e below (T0.setTop (mkF m 43 #[.val (.ref o0), .val (.int p1), .val (.int (Int32.ofNat t)), .val (.int (Int32.ofNat i))] [(.int (10 : Int32)), (.int (G (i + 1)))])) _
              refine XS.icmpYes X0.here hx rfl (pc0 := 43) (pc' := 52) rfl (hb hby d4_43) rfl (feq h5).2 (by decide) (by decide) ?_
              exact kt
          · refine ⟨i, ⟨Nat.le_refl _, by omega, fun j h1 h2 => by omega, Or.inr (fun q => q.elim h2 (fun q => h4 q.2.1))⟩, fun target kt => ?_⟩
            show Steps p.tables e below (T0.setTop (mkF m 2 #[.val (.ref o0), .val (.int p1), .val (.int (Int32.ofNat t)), .val (.int (Int32.ofNat i))] [])) _
            refine XS.iloadN X0.here hx rfl (hb hby d4_2) rfl ?_
            show Steps p.tables e below (T0.setTop (mkF m 3 #[.val (.ref o0), .val (.int p1), .val (.int (Int32.ofNat t)), .val (.int (Int32.ofNat i))] [(.int (Int32.ofNat i))])) _
            refine XS.iloadN X0.here hx rfl (hb hby d4_3) rfl ?_
            show Steps p.tables e below (T0.setTop (mkF m 4 #[.val (.ref o0), .val (.int p1), .val (.int (Int32.ofNat t)), .val (.int (Int32.ofNat i))] [(.int (Int32.ofNat t)), (.int (Int32.ofNat i))])) _
            refine XS.icmpNo X0.here hx rfl (hb hby d4_4) rfl (tlt ((own_lt (by omega) (by omega)).mpr h1)).2.1 ?_
            show Steps p.tables e below (T0.setTop (mkF m 7 #[.val (.ref o0), .val (.int p1), .val (.int (Int32.ofNat t)), .val (.int (Int32.ofNat i))] [])) _
            refine XS.aloadN X0.here hx rfl (hb hby d4_7) rfl rfl ?_
            show Steps p.tables e below (T0.setTop (mkF m 8 #[.val (.ref o0), .val (.int p1), .val (.int (Int32.ofNat t)), .val (.int (Int32.ofNat i))] [(.ref o0)])) _
            refine XS.iloadN X0.here hx rfl (hb hby d4_8) rfl ?_
            show Steps p.tables e below (T0.setTop (mkF m 9 #[.val (.ref o0), .val (.int p1), .val (.int (Int32.ofNat t)), .val (.int (Int32.ofNat i))] [(.int (Int32.ofNat i)), (.ref o0)])) _
            refine X0.baloadBytes hx (j := (Int32.ofNat i)) (v := (.int (G i))) (by rw [e0]; exact Ar.1) (State.isArrayOf_alike hZ.alike Ar.2.1) Ar.2.2 (own_in hsz (by omega)) (own_at hat (by omega)) (g := (mkF m 9 #[.val (.ref o0), .val (.int p1), .val (.int (Int32.ofNat t)), .val (.int (Int32.ofNat i))] [(.int (Int32.ofNat i)), (.ref o0)])) rfl rfl (hb hby d4_9) _ ?_
            show Steps p.tables e below (T0.setTop (mkF m 10 #[.val (.ref o0), .val (.int p1), .val (.int (Int32.ofNat t)), .val (.int (Int32.ofNat i))] [(.int (G i))])) _
            refine XS.bipush X0.here hx rfl (hb hby d4_10) ?_
            show Steps p.tables e below (T0.setTop (mkF m 12 #[.val (.ref o0), .val (.int p1), .val (.int (Int32.ofNat t)), .val (.int (Int32.ofNat i))] [(.int (10 : Int32)), (.int (G i))])) _
            refine XS.icmpYes X0.here hx rfl (pc0 := 12) (pc' := 21) rfl (hb hby d4_12) rfl (feq h2).2 (by decide) (by decide) ?_
            show Steps p.tables e below (T0.setTop (mkF m 21 #[.val (.ref o0), .val (.int p1), .val (.int (Int32.ofNat t)), .val (.int (Int32.ofNat i))] [])) _
            refine XS.aloadN X0.here hx rfl (hb hby d4_21) rfl rfl ?_
            show Steps p.tables e below (T0.setTop (mkF m 22 #[.val (.ref o0), .val (.int p1), .val (.int (Int32.ofNat t)), .val (.int (Int32.ofNat i))] [(.ref o0)])) _
            refine XS.iloadN X0.here hx rfl (hb hby d4_22) rfl ?_
            show Steps p.tables e below (T0.setTop (mkF m 23 #[.val (.ref o0), .val (.int p1), .val (.int (Int32.ofNat t)), .val (.int (Int32.ofNat i))] [(.int (Int32.ofNat i)), (.ref o0)])) _
            refine X0.baloadBytes hx (j := (Int32.ofNat i)) (v := (.int (G i))) (by rw [e0]; exact Ar.1) (State.isArrayOf_alike hZ.alike Ar.2.1) Ar.2.2 (own_in hsz (by omega)) (own_at hat (by omega)) (g := (mkF m 23 #[.val (.ref o0), .val (.int p1), .val (.int (Int32.ofNat t)), .val (.int (Int32.ofNat i))] [(.int (Int32.ofNat i)), (.ref o0)])) rfl rfl (hb hby d4_23) _ ?_
            show Steps p.tables e below (T0.setTop (mkF m 24 #[.val (.ref o0), .val (.int p1), .val (.int (Int32.ofNat t)), .val (.int (Int32.ofNat i))] [(.int (G i))])) _
            refine XS.bipush X0.here hx rfl (hb hby d4_24) ?_
            show Steps p.tables e below (T0.setTop (mkF m 26 #[.val (.ref o0), .val (.int p1), .val (.int (Int32.ofNat t)), .val (.int (Int32.ofNat i))] [(.int (13 : Int32)), (.int (G i))])) _
            refine XS.icmpNo X0.here hx rfl (hb hby d4_26) rfl (teq h3).2 ?_
            show Steps p.tables e below (T0.setTop (mkF m 29 #[.val (.ref o0), .val (.int p1), .val (.int (Int32.ofNat t)), .val (.int (Int32.ofNat i))] [])) _
            refine XS.iloadN X0.here hx rfl (hb hby d4_29) rfl ?_
            show Steps p.tables e below (T0.setTop (mkF m 30 #[.val (.ref o0), .val (.int p1), .val (.int (Int32.ofNat t)), .val (.int (Int32.ofNat i))] [(.int (Int32.ofNat i))])) _
            refine XS.iconst X0.here hx rfl (hb hby d4_30) ?_
            show Steps p.tables e below (T0.setTop (mkF m 31 #[.val (.ref o0), .val (.int p1), .val (.int (Int32.ofNat t)), .val (.int (Int32.ofNat i))] [(.int (1 : Int32)), (.int (Int32.ofNat i))])) _
            refine XS.iadd X0.here hx rfl (hb hby d4_31) rfl ?_
            rw [own_one]
            show Steps p.tables e below (T0.setTop (mkF m 32 #[.val (.ref o0), .val (.int p1), .val (.int (Int32.ofNat t)), .val (.int (Int32.ofNat i))] [(.int (Int32.ofNat (i + 1)))])) _
            refine XS.iloadN X0.here hx rfl (hb hby d4_32) rfl ?_
            show Steps p.tables e below (T0.setTop (mkF m 33 #[.val (.ref o0), .val (.int p1), .val (.int (Int32.ofNat t)), .val (.int (Int32.ofNat i))] [(.int (Int32.ofNat t)), (.int (Int32.ofNat (i + 1)))])) _
            refine XS.icmpYes X0.here hx rfl (pc0 := 33) (pc' := 52) rfl (hb hby d4_33) rfl (flt (fun q => h4 ((own_lt (by omega) (by omega)).mp q))).2.1 (by decide) (by decide) ?_
            exact kt
        · refine ⟨i, ⟨Nat.le_refl _, by omega, fun j h1 h2 => by omega, Or.inr (fun q => q.elim h2 (fun q => h3 q.1))⟩, fun target kt => ?_⟩
          show Steps p.tables e below (T0.setTop (mkF m 2 #[.val (.ref o0), .val (.int p1), .val (.int (Int32.ofNat t)), .val (.int (Int32.ofNat i))] [])) _
          refine XS.iloadN X0.here hx rfl (hb hby d4_2) rfl ?_
          show Steps p.tables e below (T0.setTop (mkF m 3 #[.val (.ref o0), .val (.int p1), .val (.int (Int32.ofNat t)), .val (.int (Int32.ofNat i))] [(.int (Int32.ofNat i))])) _
          refine XS.iloadN X0.here hx rfl (hb hby d4_3) rfl ?_
          show Steps p.tables e below (T0.setTop (mkF m 4 #[.val (.ref o0), .val (.int p1), .val (.int (Int32.ofNat t)), .val (.int (Int32.ofNat i))] [(.int (Int32.ofNat t)), (.int (Int32.ofNat i))])) _
          refine XS.icmpNo X0.here hx rfl (hb hby d4_4) rfl (tlt ((own_lt (by omega) (by omega)).mpr h1)).2.1 ?_
          show Steps p.tables e below (T0.setTop (mkF m 7 #[.val (.ref o0), .val (.int p1), .val (.int (Int32.ofNat t)), .val (.int (Int32.ofNat i))] [])) _
          refine XS.aloadN X0.here hx rfl (hb hby d4_7) rfl rfl ?_
          show Steps p.tables e below (T0.setTop (mkF m 8 #[.val (.ref o0), .val (.int p1), .val (.int (Int32.ofNat t)), .val (.int (Int32.ofNat i))] [(.ref o0)])) _
          refine XS.iloadN X0.here hx rfl (hb hby d4_8) rfl ?_
          show Steps p.tables e below (T0.setTop (mkF m 9 #[.val (.ref o0), .val (.int p1), .val (.int (Int32.ofNat t)), .val (.int (Int32.ofNat i))] [(.int (Int32.ofNat i)), (.ref o0)])) _
          refine X0.baloadBytes hx (j := (Int32.ofNat i)) (v := (.int (G i))) (by rw [e0]; exact Ar.1) (State.isArrayOf_alike hZ.alike Ar.2.1) Ar.2.2 (own_in hsz (by omega)) (own_at hat (by omega)) (g := (mkF m 9 #[.val (.ref o0), .val (.int p1), .val (.int (Int32.ofNat t)), .val (.int (Int32.ofNat i))] [(.int (Int32.ofNat i)), (.ref o0)])) rfl rfl (hb hby d4_9) _ ?_
          show Steps p.tables e below (T0.setTop (mkF m 10 #[.val (.ref o0), .val (.int p1), .val (.int (Int32.ofNat t)), .val (.int (Int32.ofNat i))] [(.int (G i))])) _
          refine XS.bipush X0.here hx rfl (hb hby d4_10) ?_
          show Steps p.tables e below (T0.setTop (mkF m 12 #[.val (.ref o0), .val (.int p1), .val (.int (Int32.ofNat t)), .val (.int (Int32.ofNat i))] [(.int (10 : Int32)), (.int (G i))])) _
          refine XS.icmpYes X0.here hx rfl (pc0 := 12) (pc' := 21) rfl (hb hby d4_12) rfl (feq h2).2 (by decide) (by decide) ?_
          show Steps p.tables e below (T0.setTop (mkF m 21 #[.val (.ref o0), .val (.int p1), .val (.int (Int32.ofNat t)), .val (.int (Int32.ofNat i))] [])) _
          refine XS.aloadN X0.here hx rfl (hb hby d4_21) rfl rfl ?_
          show Steps p.tables e below (T0.setTop (mkF m 22 #[.val (.ref o0), .val (.int p1), .val (.int (Int32.ofNat t)), .val (.int (Int32.ofNat i))] [(.ref o0)])) _
          refine XS.iloadN X0.here hx rfl (hb hby d4_22) rfl ?_
          show Steps p.tables e below (T0.setTop (mkF m 23 #[.val (.ref o0), .val (.int p1), .val (.int (Int32.ofNat t)), .val (.int (Int32.ofNat i))] [(.int (Int32.ofNat i)), (.ref o0)])) _
          refine X0.baloadBytes hx (j := (Int32.ofNat i)) (v := (.int (G i))) (by rw [e0]; exact Ar.1) (State.isArrayOf_alike hZ.alike Ar.2.1) Ar.2.2 (own_in hsz (by omega)) (own_at hat (by omega)) (g := (mkF m 23 #[.val (.ref o0), .val (.int p1), .val (.int (Int32.ofNat t)), .val (.int (Int32.ofNat i))] [(.int (Int32.ofNat i)), (.ref o0)])) rfl rfl (hb hby d4_23) _ ?_
          show Steps p.tables e below (T0.setTop (mkF m 24 #[.val (.ref o0), .val (.int p1), .val (.int (Int32.ofNat t)), .val (.int (Int32.ofNat i))] [(.int (G i))])) _
          refine XS.bipush X0.here hx rfl (hb hby d4_24) ?_
          show Steps p.tables e below (T0.setTop (mkF m 26 #[.val (.ref o0), .val (.int p1), .val (.int (Int32.ofNat t)), .val (.int (Int32.ofNat i))] [(.int (13 : Int32)), (.int (G i))])) _
          refine XS.icmpYes X0.here hx rfl (pc0 := 26) (pc' := 52) rfl (hb hby d4_26) rfl (feq h3).2 (by decide) (by decide) ?_
          exact kt
    · refine ⟨i, ⟨Nat.le_refl _, by omega, fun j h1 h2 => by omega, Or.inl (by omega)⟩, fun target kt => ?_⟩
      show Steps p.tables e below (T0.setTop (mkF m 2 #[.val (.ref o0), .val (.int p1), .val (.int (Int32.ofNat t)), .val (.int (Int32.ofNat i))] [])) _
      refine XS.iloadN X0.here hx rfl (hb hby d4_2) rfl ?_
      show Steps p.tables e below (T0.setTop (mkF m 3 #[.val (.ref o0), .val (.int p1), .val (.int (Int32.ofNat t)), .val (.int (Int32.ofNat i))] [(.int (Int32.ofNat i))])) _
      refine XS.iloadN X0.here hx rfl (hb hby d4_3) rfl ?_
      show Steps p.tables e below (T0.setTop (mkF m 4 #[.val (.ref o0), .val (.int p1), .val (.int (Int32.ofNat t)), .val (.int (Int32.ofNat i))] [(.int (Int32.ofNat t)), (.int (Int32.ofNat i))])) _
      refine XS.icmpYes X0.here hx rfl (pc0 := 4) (pc' := 52) rfl (hb hby d4_4) rfl (flt (fun q => h1 ((own_lt (by omega) (by omega)).mp q))).2.1 (by decide) (by decide) ?_
      exact kt
def Q_skip (Z : State) (o0 : Addr) (f t : Nat) (G : Nat → Int32) (cl : Cell) (h0 : Heap) (n0 : Nat) (v : Option Value) (h : Heap) (L : List Loc) : Prop := (∃ r, v = some (.int (Int32.ofNat r)) ∧ own_run G t f r) ∧ Fr n0 L ∧ h = h0
set_option maxRecDepth 65536 in
set_option maxHeartbeats 40000000 in
theorem rm_skip (l : Launch) (Z : State) (a0 : Array Value) (hw : ∀ d ∈ tables_1, d.before a0 Z = true) (ws : List Jvm.Cond) (o0 : Addr) (f t : Nat) (G : Nat → Int32) (cl : Cell) (h0 : Heap) (n0 : Nat) (Z0 : n0 ≤ h0.size) (Ar : Arr Z h0 o0 cl .byte) (hsz : cl.slots.size = 5) (hat : ∀ j, j < 5 → cl.slots[j]? = some (.int (G j))) (hf : f ≤ t) (ht : t ≤ 5) :
    MetFree l (⟨"com/example/elgin/elgin/broker/RequestHead", "skipEmptyLines", "([BII)I"⟩ : MethodName) (head1 (Jvm.Cond.code (⟨"com/example/elgin/elgin/broker/RequestHead", "skipEmptyLines", "([BII)I"⟩ : MethodName) prog_16_method_2_code 4 (some .int) :: ws) ({ frames := 0, cells := 0, slots := 0, locals := 0 } : Room)) (fun a U => a = #[(.ref o0), (.int (Int32.ofNat f)), (.int (Int32.ofNat t))] ∧ Z.Warmed39 U.vm ∧ U.heap = h0) (fun _ _ _ _ _ => True) (fun _ U o U' => ∃ v L, o = .returned v ∧ Q_skip Z o0 f t G cl h0 n0 v U'.heap L ∧ FrameEnd U o U' L ({ frames := 0, cells := 0, slots := 0, locals := 0 } : Room).cells ({ frames := 0, cells := 0, slots := 0, locals := 0 } : Room).slots) := by
  refine MetFree.of_bodySF (plainFor_of_name pn_skip) hisR ?_
  intro p e s m args below meth c s₁ Bd hml0 hP hK
  obtain ⟨rfl, hZ, hh⟩ := hP
  have hx := Bd.exec
  have hby := Bd.bytes
  have hml : c.maxLocals = 4 := hml0
  have hown : s.vm.findClass "com/example/elgin/elgin/broker/RequestHead" = some m.cls := findClass_of_methodNamed Bd.named
  have hnm := (name_of_methodNamed Bd.named Bd.method).1
  have X0 : Stand p l e ({ frames := 0, cells := 0, slots := 0, locals := 0 } : Room) s m #[(.ref o0), (.int (Int32.ofNat f)), (.int (Int32.ofNat t))] below meth c s₁ [] 0 0 := Stand.of_body Bd
  have e0 : s₁.heap = h0 := by rw [← hh, Bd.state]; rfl
  have N0 := Fr.nil n0
  have pre0 : ∀ tg, Steps p.tables e below (s₁.setTop (mkF m 0 #[.val (.ref o0), .val (.int (Int32.ofNat f)), .val (.int (Int32.ofNat t)), .unset] [])) tg → Steps p.tables e below (s₁.setTop (entryFrame m #[(.ref o0), (.int (Int32.ofNat f)), (.int (Int32.ofNat t))] 4)) tg := fun tg kg => castTop (ef_skip m o0 (Int32.ofNat f) (Int32.ofNat t)) kg
  obtain ⟨r, hrun0, st⟩ := own_loop o0 (Int32.ofNat f) t G cl ht X0 hx hZ hby e0 Ar hsz hat t f (by omega) hf
  obtain ⟨fs, hr, hrun, hended, hW, hsame⟩ := X0.leave (v := some (.int (Int32.ofNat r))) (fun h => by rw [Bd.returns] at h; cases h)
  refine ⟨_, _, pre0 _ ?_, hrun, hended, _, _, rfl, ?_, ⟨_, rfl⟩, hW, hsame.mono (by decide) (by decide)⟩
  · show Steps p.tables e below (s₁.setTop (mkF m 0 #[.val (.ref o0), .val (.int (Int32.ofNat f)), .val (.int (Int32.ofNat t)), .unset] [])) _
    refine XS.iloadN X0.here hx rfl (hb hby d4_0) rfl ?_
    show Steps p.tables e below (s₁.setTop (mkF m 1 #[.val (.ref o0), .val (.int (Int32.ofNat f)), .val (.int (Int32.ofNat t)), .unset] [(.int (Int32.ofNat f))])) _
    refine XS.istoreN X0.here hx rfl (hb hby d4_1) rfl (l' := #[.val (.ref o0), .val (.int (Int32.ofNat f)), .val (.int (Int32.ofNat t)), .val (.int (Int32.ofNat f))]) rfl ?_
    show Steps p.tables e below (s₁.setTop (mkF m 2 #[.val (.ref o0), .val (.int (Int32.ofNat f)), .val (.int (Int32.ofNat t)), .val (.int (Int32.ofNat f))] [])) _
    refine st _ ?_
    show Steps p.tables e below (s₁.setTop (mkF m 52 #[.val (.ref o0), .val (.int (Int32.ofNat f)), .val (.int (Int32.ofNat t)), .val (.int (Int32.ofNat r))] [])) _
    refine XS.iloadN X0.here hx rfl (hb hby d4_52) rfl ?_
    show Steps p.tables e below (s₁.setTop (mkF m 53 #[.val (.ref o0), .val (.int (Int32.ofNat f)), .val (.int (Int32.ofNat t)), .val (.int (Int32.ofNat r))] [(.int (Int32.ofNat r))])) _
    exact retI X0 hx Bd.returns (hb hby d4_53) hr
  · show Q_skip Z o0 f t G cl h0 n0 _ s₁.heap _
    rw [e0]
    exact ⟨⟨r, rfl, hrun0⟩, N0, rfl⟩
theorem d5_0 : decode method_4_code 0 = .ok (.iload_n 1, 1) := by decide +kernel
theorem d5_1 : decode method_4_code 1 = .ok (.iload_n 2, 1) := by decide +kernel
theorem d5_2 : decode method_4_code 2 = .ok (.if_icmp .lt 8, 3) := by decide +kernel
theorem d5_5 : decode method_4_code 5 = .ok (.iload_n 1, 1) := by decide +kernel
theorem d5_6 : decode method_4_code 6 = .ok (.iload_n 3, 1) := by decide +kernel
theorem d5_7 : decode method_4_code 7 = .ok (.if_icmp .lt 5, 3) := by decide +kernel
theorem d5_10 : decode method_4_code 10 = .ok (.iconst 1, 1) := by decide +kernel
theorem d5_11 : decode method_4_code 11 = .ok (.ireturn, 1) := by decide +kernel
theorem d5_12 : decode method_4_code 12 = .ok (.aload_n 0, 1) := by decide +kernel
theorem d5_13 : decode method_4_code 13 = .ok (.iload_n 1, 1) := by decide +kernel
theorem d5_14 : decode method_4_code 14 = .ok (.baload, 1) := by decide +kernel
theorem d5_15 : decode method_4_code 15 = .ok (.bipush 10, 2) := by decide +kernel
theorem d5_17 : decode method_4_code 17 = .ok (.if_icmp .ne 5, 3) := by decide +kernel
theorem d5_20 : decode method_4_code 20 = .ok (.iconst 1, 1) := by decide +kernel
theorem d5_21 : decode method_4_code 21 = .ok (.ireturn, 1) := by decide +kernel
theorem d5_22 : decode method_4_code 22 = .ok (.aload_n 0, 1) := by decide +kernel
theorem d5_23 : decode method_4_code 23 = .ok (.iload_n 1, 1) := by decide +kernel
theorem d5_24 : decode method_4_code 24 = .ok (.baload, 1) := by decide +kernel
theorem d5_25 : decode method_4_code 25 = .ok (.bipush 13, 2) := by decide +kernel
theorem d5_27 : decode method_4_code 27 = .ok (.if_icmp .ne 24, 3) := by decide +kernel
theorem d5_30 : decode method_4_code 30 = .ok (.iload_n 1, 1) := by decide +kernel
theorem d5_31 : decode method_4_code 31 = .ok (.iconst 1, 1) := by decide +kernel
theorem d5_32 : decode method_4_code 32 = .ok (.iadd, 1) := by decide +kernel
theorem d5_33 : decode method_4_code 33 = .ok (.iload_n 3, 1) := by decide +kernel
theorem d5_34 : decode method_4_code 34 = .ok (.if_icmp .ge 17, 3) := by decide +kernel
theorem d5_37 : decode method_4_code 37 = .ok (.aload_n 0, 1) := by decide +kernel
theorem d5_38 : decode method_4_code 38 = .ok (.iload_n 1, 1) := by decide +kernel
theorem d5_39 : decode method_4_code 39 = .ok (.iconst 1, 1) := by decide +kernel
theorem d5_40 : decode method_4_code 40 = .ok (.iadd, 1) := by decide +kernel
theorem d5_41 : decode method_4_code 41 = .ok (.baload, 1) := by decide +kernel
theorem d5_42 : decode method_4_code 42 = .ok (.bipush 10, 2) := by decide +kernel
theorem d5_44 : decode method_4_code 44 = .ok (.if_icmp .ne 7, 3) := by decide +kernel
theorem d5_47 : decode method_4_code 47 = .ok (.iconst 1, 1) := by decide +kernel
theorem d5_48 : decode method_4_code 48 = .ok (.goto 4, 3) := by decide +kernel
theorem d5_52 : decode method_4_code 52 = .ok (.ireturn, 1) := by decide +kernel
theorem pn_inl : plainName "com/example/elgin/elgin/broker/RequestHeadSkipEmptyLinesPinLaw" = true := by first | (simp [plainName, overriddenIn]; done) | decide +kernel
theorem ef_inl (m : MethodId) (o0 : Addr) (p1 : Int32) (p2 : Int32) (p3 : Int32) : entryFrame m #[(.ref o0), (.int p1), (.int p2), (.int p3)] 4 = mkF m 0 #[.val (.ref o0), .val (.int p1), .val (.int p2), .val (.int p3)] [] := by first | (simp [entryFrame, mkF, argsToLocals, Value.category]; done) | rfl
def Q_inl (Z : State) (o0 : Addr) (i f r : Nat) (G : Nat → Int32) (cl : Cell) (h0 : Heap) (n0 : Nat) (v : Option Value) (h : Heap) (L : List Loc) : Prop := v = some (.int (1 : Int32)) ∧ Fr n0 L ∧ h = h0
set_option maxRecDepth 65536 in
set_option maxHeartbeats 40000000 in
theorem rm_inl (l : Launch) (Z : State) (a0 : Array Value) (hw : ∀ d ∈ tables_1, d.before a0 Z = true) (ws : List Jvm.Cond) (o0 : Addr) (i f r : Nat) (G : Nat → Int32) (cl : Cell) (h0 : Heap) (n0 : Nat) (Z0 : n0 ≤ h0.size) (Ar : Arr Z h0 o0 cl .byte) (hsz : cl.slots.size = 5) (hat : ∀ j, j < 5 → cl.slots[j]? = some (.int (G j))) (hi : i < 5) (hf : f ≤ 5) (hr5 : r ≤ 5) (hline : f ≤ i → i < r → own_line G i r) :
    MetFree l (⟨"com/example/elgin/elgin/broker/RequestHeadSkipEmptyLinesPinLaw", "inEmptyLines", "([BIII)Z"⟩ : MethodName) (head1 (Jvm.Cond.code (⟨"com/example/elgin/elgin/broker/RequestHeadSkipEmptyLinesPinLaw", "inEmptyLines", "([BIII)Z"⟩ : MethodName) method_4_code 4 (some .boolean) :: ws) ({ frames := 0, cells := 0, slots := 0, locals := 0 } : Room)) (fun a U => a = #[(.ref o0), (.int (Int32.ofNat i)), (.int (Int32.ofNat f)), (.int (Int32.ofNat r))] ∧ Z.Warmed39 U.vm ∧ U.heap = h0) (fun _ _ _ _ _ => True) (fun _ U o U' => ∃ v L, o = .returned v ∧ Q_inl Z o0 i f r G cl h0 n0 v U'.heap L ∧ FrameEnd U o U' L ({ frames := 0, cells := 0, slots := 0, locals := 0 } : Room).cells ({ frames := 0, cells := 0, slots := 0, locals := 0 } : Room).slots) := by
  refine MetFree.of_bodySF (plainFor_of_name pn_inl) hisR ?_
  intro p e s m args below meth c s₁ Bd hml0 hP hK
  obtain ⟨rfl, hZ, hh⟩ := hP
  have hx := Bd.exec
  have hby := Bd.bytes
  have hml : c.maxLocals = 4 := hml0
  have hown : s.vm.findClass "com/example/elgin/elgin/broker/RequestHeadSkipEmptyLinesPinLaw" = some m.cls := findClass_of_methodNamed Bd.named
  have hnm := (name_of_methodNamed Bd.named Bd.method).1
  have X0 : Stand p l e ({ frames := 0, cells := 0, slots := 0, locals := 0 } : Room) s m #[(.ref o0), (.int (Int32.ofNat i)), (.int (Int32.ofNat f)), (.int (Int32.ofNat r))] below meth c s₁ [] 0 0 := Stand.of_body Bd
  have e0 : s₁.heap = h0 := by rw [← hh, Bd.state]; rfl
  have N0 := Fr.nil n0
  have pre0 : ∀ tg, Steps p.tables e below (s₁.setTop (mkF m 0 #[.val (.ref o0), .val (.int (Int32.ofNat i)), .val (.int (Int32.ofNat f)), .val (.int (Int32.ofNat r))] [])) tg → Steps p.tables e below (s₁.setTop (entryFrame m #[(.ref o0), (.int (Int32.ofNat i)), (.int (Int32.ofNat f)), (.int (Int32.ofNat r))] 4)) tg := fun tg kg => castTop (ef_inl m o0 (Int32.ofNat i) (Int32.ofNat f) (Int32.ofNat r)) kg
  by_cases h1 : i < f
  · obtain ⟨fs, hr, hrun, hended, hW, hsame⟩ := X0.leave (v := some (.int (1 : Int32))) (fun h => by rw [Bd.returns] at h; cases h)
    refine ⟨_, _, pre0 _ ?_, hrun, hended, _, _, rfl, ?_, ⟨_, rfl⟩, hW, hsame.mono (by decide) (by decide)⟩
    · show Steps p.tables e below (s₁.setTop (mkF m 0 #[.val (.ref o0), .val (.int (Int32.ofNat i)), .val (.int (Int32.ofNat f)), .val (.int (Int32.ofNat r))] [])) _
      refine XS.iloadN X0.here hx rfl (hb hby d5_0) rfl ?_
      show Steps p.tables e below (s₁.setTop (mkF m 1 #[.val (.ref o0), .val (.int (Int32.ofNat i)), .val (.int (Int32.ofNat f)), .val (.int (Int32.ofNat r))] [(.int (Int32.ofNat i))])) _
      refine XS.iloadN X0.here hx rfl (hb hby d5_1) rfl ?_
      show Steps p.tables e below (s₁.setTop (mkF m 2 #[.val (.ref o0), .val (.int (Int32.ofNat i)), .val (.int (Int32.ofNat f)), .val (.int (Int32.ofNat r))] [(.int (Int32.ofNat f)), (.int (Int32.ofNat i))])) _
      refine XS.icmpYes X0.here hx rfl (pc0 := 2) (pc' := 10) rfl (hb hby d5_2) rfl (tlt ((own_lt (by omega) (by omega)).mpr h1)).1 (by decide) (by decide) ?_
      show Steps p.tables e below (s₁.setTop (mkF m 10 #[.val (.ref o0), .val (.int (Int32.ofNat i)), .val (.int (Int32.ofNat f)), .val (.int (Int32.ofNat r))] [])) _
      refine XS.iconst X0.here hx rfl (hb hby d5_10) ?_
      show Steps p.tables e below (s₁.setTop (mkF m 11 #[.val (.ref o0), .val (.int (Int32.ofNat i)), .val (.int (Int32.ofNat f)), .val (.int (Int32.ofNat r))] [(.int (1 : Int32))])) _
      exact retN X0 hx (t := .boolean) Bd.returns (by simp) (hb hby d5_11) hr
    · show Q_inl Z o0 i f r G cl h0 n0 _ s₁.heap _
      rw [e0]
      exact ⟨rfl, N0, rfl⟩
  · by_cases h2 : i < r
    · by_cases h3 : (G i) = (10 : Int32)
      · obtain ⟨fs, hr, hrun, hended, hW, hsame⟩ := X0.leave (v := some (.int (1 : Int32))) (fun h => by rw [Bd.returns] at h; cases h)
        refine ⟨_, _, pre0 _ ?_, hrun, hended, _, _, rfl, ?_, ⟨_, rfl⟩, hW, hsame.mono (by decide) (by decide)⟩
        · show Steps p.tables e below (s₁.setTop (mkF m 0 #[.val (.ref o0), .val (.int (Int32.ofNat i)), .val (.int (Int32.ofNat f)), .val (.int (Int32.ofNat r))] [])) _
          refine XS.iloadN X0.here hx rfl (hb hby d5_0) rfl ?_
          show Steps p.tables e below (s₁.setTop (mkF m 1 #[.val (.ref o0), .val (.int (Int32.ofNat i)), .val (.int (Int32.ofNat f)), .val (.int (Int32.ofNat r))] [(.int (Int32.ofNat i))])) _
          refine XS.iloadN X0.here hx rfl (hb hby d5_1) rfl ?_
          show Steps p.tables e below (s₁.setTop (mkF m 2 #[.val (.ref o0), .val (.int (Int32.ofNat i)), .val (.int (Int32.ofNat f)), .val (.int (Int32.ofNat r))] [(.int (Int32.ofNat f)), (.int (Int32.ofNat i))])) _
          refine XS.icmpNo X0.here hx rfl (hb hby d5_2) rfl (flt (fun q => h1 ((own_lt (by omega) (by omega)).mp q))).1 ?_
          show Steps p.tables e below (s₁.setTop (mkF m 5 #[.val (.ref o0), .val (.int (Int32.ofNat i)), .val (.int (Int32.ofNat f)), .val (.int (Int32.ofNat r))] [])) _
          refine XS.iloadN X0.here hx rfl (hb hby d5_5) rfl ?_
          show Steps p.tables e below (s₁.setTop (mkF m 6 #[.val (.ref o0), .val (.int (Int32.ofNat i)), .val (.int (Int32.ofNat f)), .val (.int (Int32.ofNat r))] [(.int (Int32.ofNat i))])) _
          refine XS.iloadN X0.here hx rfl (hb hby d5_6) rfl ?_
          show Steps p.tables e below (s₁.setTop (mkF m 7 #[.val (.ref o0), .val (.int (Int32.ofNat i)), .val (.int (Int32.ofNat f)), .val (.int (Int32.ofNat r))] [(.int (Int32.ofNat r)), (.int (Int32.ofNat i))])) _
          refine XS.icmpYes X0.here hx rfl (pc0 := 7) (pc' := 12) rfl (hb hby d5_7) rfl (tlt ((own_lt (by omega) (by omega)).mpr h2)).1 (by decide) (by decide) ?_
          show Steps p.tables e below (s₁.setTop (mkF m 12 #[.val (.ref o0), .val (.int (Int32.ofNat i)), .val (.int (Int32.ofNat f)), .val (.int (Int32.ofNat r))] [])) _
          refine XS.aloadN X0.here hx rfl (hb hby d5_12) rfl rfl ?_
          show Steps p.tables e below (s₁.setTop (mkF m 13 #[.val (.ref o0), .val (.int (Int32.ofNat i)), .val (.int (Int32.ofNat f)), .val (.int (Int32.ofNat r))] [(.ref o0)])) _
          refine XS.iloadN X0.here hx rfl (hb hby d5_13) rfl ?_
          show Steps p.tables e below (s₁.setTop (mkF m 14 #[.val (.ref o0), .val (.int (Int32.ofNat i)), .val (.int (Int32.ofNat f)), .val (.int (Int32.ofNat r))] [(.int (Int32.ofNat i)), (.ref o0)])) _
          refine X0.baloadBytes hx (j := (Int32.ofNat i)) (v := (.int (G i))) (by rw [e0]; exact Ar.1) (State.isArrayOf_alike hZ.alike Ar.2.1) Ar.2.2 (own_in hsz (by omega)) (own_at hat (by omega)) (g := (mkF m 14 #[.val (.ref o0), .val (.int (Int32.ofNat i)), .val (.int (Int32.ofNat f)), .val (.int (Int32.ofNat r))] [(.int (Int32.ofNat i)), (.ref o0)])) rfl rfl (hb hby d5_14) _ ?_
          show Steps p.tables e below (s₁.setTop (mkF m 15 #[.val (.ref o0), .val (.int (Int32.ofNat i)), .val (.int (Int32.ofNat f)), .val (.int (Int32.ofNat r))] [(.int (G i))])) _
          refine XS.bipush X0.here hx rfl (hb hby d5_15) ?_
          show Steps p.tables e below (s₁.setTop (mkF m 17 #[.val (.ref o0), .val (.int (Int32.ofNat i)), .val (.int (Int32.ofNat f)), .val (.int (Int32.ofNat r))] [(.int (10 : Int32)), (.int (G i))])) _
          refine XS.icmpNo X0.here hx rfl (hb hby d5_17) rfl (teq h3).2 ?_
          show Steps p.tables e below (s₁.setTop (mkF m 20 #[.val (.ref o0), .val (.int (Int32.ofNat i)), .val (.int (Int32.ofNat f)), .val (.int (Int32.ofNat r))] [])) _
          refine XS.iconst X0.here hx rfl (hb hby d5_20) ?_
          show Steps p.tables e below (s₁.setTop (mkF m 21 #[.val (.ref o0), .val (.int (Int32.ofNat i)), .val (.int (Int32.ofNat f)), .val (.int (Int32.ofNat r))] [(.int (1 : Int32))])) _
          exact retN X0 hx (t := .boolean) Bd.returns (by simp) (hb hby d5_21) hr
        · show Q_inl Z o0 i f r G cl h0 n0 _ s₁.heap _
          rw [e0]
          exact ⟨rfl, N0, rfl⟩
      · obtain ⟨q1, q2, q3⟩ := (hline (by omega) h2).resolve_left h3
        obtain ⟨fs, hr, hrun, hended, hW, hsame⟩ := X0.leave (v := some (.int (1 : Int32))) (fun h => by rw [Bd.returns] at h; cases h)
        refine ⟨_, _, pre0 _ ?_, hrun, hended, _, _, rfl, ?_, ⟨_, rfl⟩, hW, hsame.mono (by decide) (by decide)⟩
        · show Steps p.tables e below (s₁.setTop (mkF m 0 #[.val (.ref o0), .val (.int (Int32.ofNat i)), .val (.int (Int32.ofNat f)), .val (.int (Int32.ofNat r))] [])) _
          refine XS.iloadN X0.here hx rfl (hb hby d5_0) rfl ?_
          show Steps p.tables e below (s₁.setTop (mkF m 1 #[.val (.ref o0), .val (.int (Int32.ofNat i)), .val (.int (Int32.ofNat f)), .val (.int (Int32.ofNat r))] [(.int (Int32.ofNat i))])) _
          refine XS.iloadN X0.here hx rfl (hb hby d5_1) rfl ?_
          show Steps p.tables e below (s₁.setTop (mkF m 2 #[.val (.ref o0), .val (.int (Int32.ofNat i)), .val (.int (Int32.ofNat f)), .val (.int (Int32.ofNat r))] [(.int (Int32.ofNat f)), (.int (Int32.ofNat i))])) _
          refine XS.icmpNo X0.here hx rfl (hb hby d5_2) rfl (flt (fun q => h1 ((own_lt (by omega) (by omega)).mp q))).1 ?_
          show Steps p.tables e below (s₁.setTop (mkF m 5 #[.val (.ref o0), .val (.int (Int32.ofNat i)), .val (.int (Int32.ofNat f)), .val (.int (Int32.ofNat r))] [])) _
          refine XS.iloadN X0.here hx rfl (hb hby d5_5) rfl ?_
          show Steps p.tables e below (s₁.setTop (mkF m 6 #[.val (.ref o0), .val (.int (Int32.ofNat i)), .val (.int (Int32.ofNat f)), .val (.int (Int32.ofNat r))] [(.int (Int32.ofNat i))])) _
          refine XS.iloadN X0.here hx rfl (hb hby d5_6) rfl ?_
          show Steps p.tables e below (s₁.setTop (mkF m 7 #[.val (.ref o0), .val (.int (Int32.ofNat i)), .val (.int (Int32.ofNat f)), .val (.int (Int32.ofNat r))] [(.int (Int32.ofNat r)), (.int (Int32.ofNat i))])) _
          refine XS.icmpYes X0.here hx rfl (pc0 := 7) (pc' := 12) rfl (hb hby d5_7) rfl (tlt ((own_lt (by omega) (by omega)).mpr h2)).1 (by decide) (by decide) ?_
          show Steps p.tables e below (s₁.setTop (mkF m 12 #[.val (.ref o0), .val (.int (Int32.ofNat i)), .val (.int (Int32.ofNat f)), .val (.int (Int32.ofNat r))] [])) _
          refine XS.aloadN X0.here hx rfl (hb hby d5_12) rfl rfl ?_
          show Steps p.tables e below (s₁.setTop (mkF m 13 #[.val (.ref o0), .val (.int (Int32.ofNat i)), .val (.int (Int32.ofNat f)), .val (.int (Int32.ofNat r))] [(.ref o0)])) _
          refine XS.iloadN X0.here hx rfl (hb hby d5_13) rfl ?_
          show Steps p.tables e below (s₁.setTop (mkF m 14 #[.val (.ref o0), .val (.int (Int32.ofNat i)), .val (.int (Int32.ofNat f)), .val (.int (Int32.ofNat r))] [(.int (Int32.ofNat i)), (.ref o0)])) _
          refine X0.baloadBytes hx (j := (Int32.ofNat i)) (v := (.int (G i))) (by rw [e0]; exact Ar.1) (State.isArrayOf_alike hZ.alike Ar.2.1) Ar.2.2 (own_in hsz (by omega)) (own_at hat (by omega)) (g := (mkF m 14 #[.val (.ref o0), .val (.int (Int32.ofNat i)), .val (.int (Int32.ofNat f)), .val (.int (Int32.ofNat r))] [(.int (Int32.ofNat i)), (.ref o0)])) rfl rfl (hb hby d5_14) _ ?_
          show Steps p.tables e below (s₁.setTop (mkF m 15 #[.val (.ref o0), .val (.int (Int32.ofNat i)), .val (.int (Int32.ofNat f)), .val (.int (Int32.ofNat r))] [(.int (G i))])) _
          refine XS.bipush X0.here hx rfl (hb hby d5_15) ?_
          show Steps p.tables e below (s₁.setTop (mkF m 17 #[.val (.ref o0), .val (.int (Int32.ofNat i)), .val (.int (Int32.ofNat f)), .val (.int (Int32.ofNat r))] [(.int (10 : Int32)), (.int (G i))])) _
          refine XS.icmpYes X0.here hx rfl (pc0 := 17) (pc' := 22) rfl (hb hby d5_17) rfl (feq h3).2 (by decide) (by decide) ?_
          show Steps p.tables e below (s₁.setTop (mkF m 22 #[.val (.ref o0), .val (.int (Int32.ofNat i)), .val (.int (Int32.ofNat f)), .val (.int (Int32.ofNat r))] [])) _
          refine XS.aloadN X0.here hx rfl (hb hby d5_22) rfl rfl ?_
          show Steps p.tables e below (s₁.setTop (mkF m 23 #[.val (.ref o0), .val (.int (Int32.ofNat i)), .val (.int (Int32.ofNat f)), .val (.int (Int32.ofNat r))] [(.ref o0)])) _
          refine XS.iloadN X0.here hx rfl (hb hby d5_23) rfl ?_
          show Steps p.tables e below (s₁.setTop (mkF m 24 #[.val (.ref o0), .val (.int (Int32.ofNat i)), .val (.int (Int32.ofNat f)), .val (.int (Int32.ofNat r))] [(.int (Int32.ofNat i)), (.ref o0)])) _
          refine X0.baloadBytes hx (j := (Int32.ofNat i)) (v := (.int (G i))) (by rw [e0]; exact Ar.1) (State.isArrayOf_alike hZ.alike Ar.2.1) Ar.2.2 (own_in hsz (by omega)) (own_at hat (by omega)) (g := (mkF m 24 #[.val (.ref o0), .val (.int (Int32.ofNat i)), .val (.int (Int32.ofNat f)), .val (.int (Int32.ofNat r))] [(.int (Int32.ofNat i)), (.ref o0)])) rfl rfl (hb hby d5_24) _ ?_
          show Steps p.tables e below (s₁.setTop (mkF m 25 #[.val (.ref o0), .val (.int (Int32.ofNat i)), .val (.int (Int32.ofNat f)), .val (.int (Int32.ofNat r))] [(.int (G i))])) _
          refine XS.bipush X0.here hx rfl (hb hby d5_25) ?_
          show Steps p.tables e below (s₁.setTop (mkF m 27 #[.val (.ref o0), .val (.int (Int32.ofNat i)), .val (.int (Int32.ofNat f)), .val (.int (Int32.ofNat r))] [(.int (13 : Int32)), (.int (G i))])) _
          refine XS.icmpNo X0.here hx rfl (hb hby d5_27) rfl (teq q1).2 ?_
          show Steps p.tables e below (s₁.setTop (mkF m 30 #[.val (.ref o0), .val (.int (Int32.ofNat i)), .val (.int (Int32.ofNat f)), .val (.int (Int32.ofNat r))] [])) _
          refine XS.iloadN X0.here hx rfl (hb hby d5_30) rfl ?_
          show Steps p.tables e below (s₁.setTop (mkF m 31 #[.val (.ref o0), .val (.int (Int32.ofNat i)), .val (.int (Int32.ofNat f)), .val (.int (Int32.ofNat r))] [(.int (Int32.ofNat i))])) _
          refine XS.iconst X0.here hx rfl (hb hby d5_31) ?_
          show Steps p.tables e below (s₁.setTop (mkF m 32 #[.val (.ref o0), .val (.int (Int32.ofNat i)), .val (.int (Int32.ofNat f)), .val (.int (Int32.ofNat r))] [(.int (1 : Int32)), (.int (Int32.ofNat i))])) _
          refine XS.iadd X0.here hx rfl (hb hby d5_32) rfl ?_
          rw [own_one]
          show Steps p.tables e below (s₁.setTop (mkF m 33 #[.val (.ref o0), .val (.int (Int32.ofNat i)), .val (.int (Int32.ofNat f)), .val (.int (Int32.ofNat r))] [(.int (Int32.ofNat (i + 1)))])) _
          refine XS.iloadN X0.here hx rfl (hb hby d5_33) rfl ?_
          show Steps p.tables e below (s₁.setTop (mkF m 34 #[.val (.ref o0), .val (.int (Int32.ofNat i)), .val (.int (Int32.ofNat f)), .val (.int (Int32.ofNat r))] [(.int (Int32.ofNat r)), (.int (Int32.ofNat (i + 1)))])) _
          refine XS.icmpNo X0.here hx rfl (hb hby d5_34) rfl (tlt ((own_lt (by omega) (by omega)).mpr q2)).2.1 ?_
          show Steps p.tables e below (s₁.setTop (mkF m 37 #[.val (.ref o0), .val (.int (Int32.ofNat i)), .val (.int (Int32.ofNat f)), .val (.int (Int32.ofNat r))] [])) _
          refine XS.aloadN X0.here hx rfl (hb hby d5_37) rfl rfl ?_
          show Steps p.tables e below (s₁.setTop (mkF m 38 #[.val (.ref o0), .val (.int (Int32.ofNat i)), .val (.int (Int32.ofNat f)), .val (.int (Int32.ofNat r))] [(.ref o0)])) _
          refine XS.iloadN X0.here hx rfl (hb hby d5_38) rfl ?_
          show Steps p.tables e below (s₁.setTop (mkF m 39 #[.val (.ref o0), .val (.int (Int32.ofNat i)), .val (.int (Int32.ofNat f)), .val (.int (Int32.ofNat r))] [(.int (Int32.ofNat i)), (.ref o0)])) _
          refine XS.iconst X0.here hx rfl (hb hby d5_39) ?_
          show Steps p.tables e below (s₁.setTop (mkF m 40 #[.val (.ref o0), .val (.int (Int32.ofNat i)), .val (.int (Int32.ofNat f)), .val (.int (Int32.ofNat r))] [(.int (1 : Int32)), (.int (Int32.ofNat i)), (.ref o0)])) _
          refine XS.iadd X0.here hx rfl (hb hby d5_40) rfl ?_
          rw [own_one]
          show Steps p.tables e below (s₁.setTop (mkF m 41 #[.val (.ref o0), .val (.int (Int32.ofNat i)), .val (.int (Int32.ofNat f)), .val (.int (Int32.ofNat r))] [(.int (Int32.ofNat (i + 1))), (.ref o0)])) _
          refine X0.baloadBytes hx (j := (Int32.ofNat (i + 1))) (v := (.int (G (i + 1)))) (by rw [e0]; exact Ar.1) (State.isArrayOf_alike hZ.alike Ar.2.1) Ar.2.2 (own_in hsz (by omega)) (own_at hat (by omega)) (g := (mkF m 41 #[.val (.ref o0), .val (.int (Int32.ofNat i)), .val (.int (Int32.ofNat f)), .val (.int (Int32.ofNat r))] [(.int (Int32.ofNat (i + 1))), (.ref o0)])) rfl rfl (hb hby d5_41) _ ?_
          show Steps p.tables e below (s₁.setTop (mkF m 42 #[.val (.ref o0), .val (.int (Int32.ofNat i)), .val (.int (Int32.ofNat f)), .val (.int (Int32.ofNat r))] [(.int (G (i + 1)))])) _
          refine XS.bipush X0.here hx rfl (hb hby d5_42) ?_
          show Steps p.tables e below (s₁.setTop (mkF m 44 #[.val (.ref o0), .val (.int (Int32.ofNat i)), .val (.int (Int32.ofNat f)), .val (.int (Int32.ofNat r))] [(.int (10 : Int32)), (.int (G (i + 1)))])) _
          refine XS.icmpNo X0.here hx rfl (hb hby d5_44) rfl (teq q3).2 ?_
          show Steps p.tables e below (s₁.setTop (mkF m 47 #[.val (.ref o0), .val (.int (Int32.ofNat i)), .val (.int (Int32.ofNat f)), .val (.int (Int32.ofNat r))] [])) _
          refine XS.iconst X0.here hx rfl (hb hby d5_47) ?_
          show Steps p.tables e below (s₁.setTop (mkF m 48 #[.val (.ref o0), .val (.int (Int32.ofNat i)), .val (.int (Int32.ofNat f)), .val (.int (Int32.ofNat r))] [(.int (1 : Int32))])) _
          refine XS.goto X0.here hx rfl (pc0 := 48) (pc' := 52) rfl (hb hby d5_48) (by decide) (by decide) ?_
          show Steps p.tables e below (s₁.setTop (mkF m 52 #[.val (.ref o0), .val (.int (Int32.ofNat i)), .val (.int (Int32.ofNat f)), .val (.int (Int32.ofNat r))] [(.int (1 : Int32))])) _
          exact retN X0 hx (t := .boolean) Bd.returns (by simp) (hb hby d5_52) hr
        · show Q_inl Z o0 i f r G cl h0 n0 _ s₁.heap _
          rw [e0]
          exact ⟨rfl, N0, rfl⟩
    · obtain ⟨fs, hr, hrun, hended, hW, hsame⟩ := X0.leave (v := some (.int (1 : Int32))) (fun h => by rw [Bd.returns] at h; cases h)
      refine ⟨_, _, pre0 _ ?_, hrun, hended, _, _, rfl, ?_, ⟨_, rfl⟩, hW, hsame.mono (by decide) (by decide)⟩
      · show Steps p.tables e below (s₁.setTop (mkF m 0 #[.val (.ref o0), .val (.int (Int32.ofNat i)), .val (.int (Int32.ofNat f)), .val (.int (Int32.ofNat r))] [])) _
        refine XS.iloadN X0.here hx rfl (hb hby d5_0) rfl ?_
        show Steps p.tables e below (s₁.setTop (mkF m 1 #[.val (.ref o0), .val (.int (Int32.ofNat i)), .val (.int (Int32.ofNat f)), .val (.int (Int32.ofNat r))] [(.int (Int32.ofNat i))])) _
        refine XS.iloadN X0.here hx rfl (hb hby d5_1) rfl ?_
        show Steps p.tables e below (s₁.setTop (mkF m 2 #[.val (.ref o0), .val (.int (Int32.ofNat i)), .val (.int (Int32.ofNat f)), .val (.int (Int32.ofNat r))] [(.int (Int32.ofNat f)), (.int (Int32.ofNat i))])) _
        refine XS.icmpNo X0.here hx rfl (hb hby d5_2) rfl (flt (fun q => h1 ((own_lt (by omega) (by omega)).mp q))).1 ?_
        show Steps p.tables e below (s₁.setTop (mkF m 5 #[.val (.ref o0), .val (.int (Int32.ofNat i)), .val (.int (Int32.ofNat f)), .val (.int (Int32.ofNat r))] [])) _
        refine XS.iloadN X0.here hx rfl (hb hby d5_5) rfl ?_
        show Steps p.tables e below (s₁.setTop (mkF m 6 #[.val (.ref o0), .val (.int (Int32.ofNat i)), .val (.int (Int32.ofNat f)), .val (.int (Int32.ofNat r))] [(.int (Int32.ofNat i))])) _
        refine XS.iloadN X0.here hx rfl (hb hby d5_6) rfl ?_
        show Steps p.tables e below (s₁.setTop (mkF m 7 #[.val (.ref o0), .val (.int (Int32.ofNat i)), .val (.int (Int32.ofNat f)), .val (.int (Int32.ofNat r))] [(.int (Int32.ofNat r)), (.int (Int32.ofNat i))])) _
        refine XS.icmpNo X0.here hx rfl (hb hby d5_7) rfl (flt (fun q => h2 ((own_lt (by omega) (by omega)).mp q))).1 ?_
        show Steps p.tables e below (s₁.setTop (mkF m 10 #[.val (.ref o0), .val (.int (Int32.ofNat i)), .val (.int (Int32.ofNat f)), .val (.int (Int32.ofNat r))] [])) _
        refine XS.iconst X0.here hx rfl (hb hby d5_10) ?_
        show Steps p.tables e below (s₁.setTop (mkF m 11 #[.val (.ref o0), .val (.int (Int32.ofNat i)), .val (.int (Int32.ofNat f)), .val (.int (Int32.ofNat r))] [(.int (1 : Int32))])) _
        exact retN X0 hx (t := .boolean) Bd.returns (by simp) (hb hby d5_11) hr
      · show Q_inl Z o0 i f r G cl h0 n0 _ s₁.heap _
        rw [e0]
        exact ⟨rfl, N0, rfl⟩
theorem d6_0 : decode method_5_code 0 = .ok (.aload_n 0, 1) := by decide +kernel
theorem d6_1 : decode method_5_code 1 = .ok (.iload_n 1, 1) := by decide +kernel
theorem d6_2 : decode method_5_code 2 = .ok (.baload, 1) := by decide +kernel
theorem d6_3 : decode method_5_code 3 = .ok (.bipush 10, 2) := by decide +kernel
theorem d6_5 : decode method_5_code 5 = .ok (.if_icmp .eq 28, 3) := by decide +kernel
theorem d6_8 : decode method_5_code 8 = .ok (.aload_n 0, 1) := by decide +kernel
theorem d6_9 : decode method_5_code 9 = .ok (.iload_n 1, 1) := by decide +kernel
theorem d6_10 : decode method_5_code 10 = .ok (.baload, 1) := by decide +kernel
theorem d6_11 : decode method_5_code 11 = .ok (.bipush 13, 2) := by decide +kernel
theorem d6_13 : decode method_5_code 13 = .ok (.if_icmp .ne 24, 3) := by decide +kernel
theorem d6_16 : decode method_5_code 16 = .ok (.iload_n 1, 1) := by decide +kernel
theorem d6_17 : decode method_5_code 17 = .ok (.iconst 1, 1) := by decide +kernel
theorem d6_18 : decode method_5_code 18 = .ok (.iadd, 1) := by decide +kernel
theorem d6_19 : decode method_5_code 19 = .ok (.iload_n 2, 1) := by decide +kernel
theorem d6_20 : decode method_5_code 20 = .ok (.if_icmp .ge 17, 3) := by decide +kernel
theorem d6_23 : decode method_5_code 23 = .ok (.aload_n 0, 1) := by decide +kernel
theorem d6_24 : decode method_5_code 24 = .ok (.iload_n 1, 1) := by decide +kernel
theorem d6_25 : decode method_5_code 25 = .ok (.iconst 1, 1) := by decide +kernel
theorem d6_26 : decode method_5_code 26 = .ok (.iadd, 1) := by decide +kernel
theorem d6_27 : decode method_5_code 27 = .ok (.baload, 1) := by decide +kernel
theorem d6_28 : decode method_5_code 28 = .ok (.bipush 10, 2) := by decide +kernel
theorem d6_30 : decode method_5_code 30 = .ok (.if_icmp .ne 7, 3) := by decide +kernel
theorem d6_37 : decode method_5_code 37 = .ok (.iconst 0, 1) := by decide +kernel
theorem d6_38 : decode method_5_code 38 = .ok (.ireturn, 1) := by decide +kernel
theorem pn_sta : plainName "com/example/elgin/elgin/broker/RequestHeadSkipEmptyLinesPinLaw" = true := by first | (simp [plainName, overriddenIn]; done) | decide +kernel
theorem ef_sta (m : MethodId) (o0 : Addr) (p1 : Int32) (p2 : Int32) : entryFrame m #[(.ref o0), (.int p1), (.int p2)] 3 = mkF m 0 #[.val (.ref o0), .val (.int p1), .val (.int p2)] [] := by first | (simp [entryFrame, mkF, argsToLocals, Value.category]; done) | rfl
def Q_sta (Z : State) (o0 : Addr) (r t : Nat) (G : Nat → Int32) (cl : Cell) (h0 : Heap) (n0 : Nat) (v : Option Value) (h : Heap) (L : List Loc) : Prop := v = some (.int (0 : Int32)) ∧ Fr n0 L ∧ h = h0
set_option maxRecDepth 65536 in
set_option maxHeartbeats 40000000 in
theorem rm_sta (l : Launch) (Z : State) (a0 : Array Value) (hw : ∀ d ∈ tables_1, d.before a0 Z = true) (ws : List Jvm.Cond) (o0 : Addr) (r t : Nat) (G : Nat → Int32) (cl : Cell) (h0 : Heap) (n0 : Nat) (Z0 : n0 ≤ h0.size) (Ar : Arr Z h0 o0 cl .byte) (hsz : cl.slots.size = 5) (hat : ∀ j, j < 5 → cl.slots[j]? = some (.int (G j))) (hr5 : r < t) (ht : t ≤ 5) (hno : ¬ own_line G r t) :
    MetFree l (⟨"com/example/elgin/elgin/broker/RequestHeadSkipEmptyLinesPinLaw", "startsEmptyLine", "([BII)Z"⟩ : MethodName) (head1 (Jvm.Cond.code (⟨"com/example/elgin/elgin/broker/RequestHeadSkipEmptyLinesPinLaw", "startsEmptyLine", "([BII)Z"⟩ : MethodName) method_5_code 3 (some .boolean) :: ws) ({ frames := 0, cells := 0, slots := 0, locals := 0 } : Room)) (fun a U => a = #[(.ref o0), (.int (Int32.ofNat r)), (.int (Int32.ofNat t))] ∧ Z.Warmed39 U.vm ∧ U.heap = h0) (fun _ _ _ _ _ => True) (fun _ U o U' => ∃ v L, o = .returned v ∧ Q_sta Z o0 r t G cl h0 n0 v U'.heap L ∧ FrameEnd U o U' L ({ frames := 0, cells := 0, slots := 0, locals := 0 } : Room).cells ({ frames := 0, cells := 0, slots := 0, locals := 0 } : Room).slots) := by
  refine MetFree.of_bodySF (plainFor_of_name pn_sta) hisR ?_
  intro p e s m args below meth c s₁ Bd hml0 hP hK
  obtain ⟨rfl, hZ, hh⟩ := hP
  have hx := Bd.exec
  have hby := Bd.bytes
  have hml : c.maxLocals = 3 := hml0
  have hown : s.vm.findClass "com/example/elgin/elgin/broker/RequestHeadSkipEmptyLinesPinLaw" = some m.cls := findClass_of_methodNamed Bd.named
  have hnm := (name_of_methodNamed Bd.named Bd.method).1
  have X0 : Stand p l e ({ frames := 0, cells := 0, slots := 0, locals := 0 } : Room) s m #[(.ref o0), (.int (Int32.ofNat r)), (.int (Int32.ofNat t))] below meth c s₁ [] 0 0 := Stand.of_body Bd
  have e0 : s₁.heap = h0 := by rw [← hh, Bd.state]; rfl
  have N0 := Fr.nil n0
  have pre0 : ∀ tg, Steps p.tables e below (s₁.setTop (mkF m 0 #[.val (.ref o0), .val (.int (Int32.ofNat r)), .val (.int (Int32.ofNat t))] [])) tg → Steps p.tables e below (s₁.setTop (entryFrame m #[(.ref o0), (.int (Int32.ofNat r)), (.int (Int32.ofNat t))] 3)) tg := fun tg kg => castTop (ef_sta m o0 (Int32.ofNat r) (Int32.ofNat t)) kg
  have h2 : ¬ (G r) = (10 : Int32) := fun q => hno (Or.inl q)
  by_cases h3 : (G r) = (13 : Int32)
  · by_cases h4 : (r + 1) < t
    · have h5 : ¬ (G (r + 1)) = (10 : Int32) := fun q => hno (Or.inr ⟨h3, h4, q⟩)
      obtain ⟨fs, hr, hrun, hended, hW, hsame⟩ := X0.leave (v := some (.int (0 : Int32))) (fun h => by rw [Bd.returns] at h; cases h)
      refine ⟨_, _, pre0 _ ?_, hrun, hended, _, _, rfl, ?_, ⟨_, rfl⟩, hW, hsame.mono (by decide) (by decide)⟩
      · show Steps p.tables e below (s₁.setTop (mkF m 0 #[.val (.ref o0), .val (.int (Int32.ofNat r)), .val (.int (Int32.ofNat t))] [])) _
        refine XS.aloadN X0.here hx rfl (hb hby d6_0) rfl rfl ?_
        show Steps p.tables e below (s₁.setTop (mkF m 1 #[.val (.ref o0), .val (.int (Int32.ofNat r)), .val (.int (Int32.ofNat t))] [(.ref o0)])) _
        refine XS.iloadN X0.here hx rfl (hb hby d6_1) rfl ?_
        show Steps p.tables e below (s₁.setTop (mkF m 2 #[.val (.ref o0), .val (.int (Int32.ofNat r)), .val (.int (Int32.ofNat t))] [(.int (Int32.ofNat r)), (.ref o0)])) _
        refine X0.baloadBytes hx (j := (Int32.ofNat r)) (v := (.int (G r))) (by rw [e0]; exact Ar.1) (State.isArrayOf_alike hZ.alike Ar.2.1) Ar.2.2 (own_in hsz (by omega)) (own_at hat (by omega)) (g := (mkF m 2 #[.val (.ref o0), .val (.int (Int32.ofNat r)), .val (.int (Int32.ofNat t))] [(.int (Int32.ofNat r)), (.ref o0)])) rfl rfl (hb hby d6_2) _ ?_
        show Steps p.tables e below (s₁.setTop (mkF m 3 #[.val (.ref o0), .val (.int (Int32.ofNat r)), .val (.int (Int32.ofNat t))] [(.int (G r))])) _
        refine XS.bipush X0.here hx rfl (hb hby d6_3) ?_
        show Steps p.tables e below (s₁.setTop (mkF m 5 #[.val (.ref o0), .val (.int (Int32.ofNat r)), .val (.int (Int32.ofNat t))] [(.int (10 : Int32)), (.int (G r))])) _
        refine XS.icmpNo X0.here hx rfl (hb hby d6_5) rfl (feq h2).1 ?_
        show Steps p.tables e below (s₁.setTop (mkF m 8 #[.val (.ref o0), .val (.int (Int32.ofNat r)), .val (.int (Int32.ofNat t))] [])) _
        refine XS.aloadN X0.here hx rfl (hb hby d6_8) rfl rfl ?_
        show Steps p.tables e below (s₁.setTop (mkF m 9 #[.val (.ref o0), .val (.int (Int32.ofNat r)), .val (.int (Int32.ofNat t))] [(.ref o0)])) _
        refine XS.iloadN X0.here hx rfl (hb hby d6_9) rfl ?_
        show Steps p.tables e below (s₁.setTop (mkF m 10 #[.val (.ref o0), .val (.int (Int32.ofNat r)), .val (.int (Int32.ofNat t))] [(.int (Int32.ofNat r)), (.ref o0)])) _
        refine X0.baloadBytes hx (j := (Int32.ofNat r)) (v := (.int (G r))) (by rw [e0]; exact Ar.1) (State.isArrayOf_alike hZ.alike Ar.2.1) Ar.2.2 (own_in hsz (by omega)) (own_at hat (by omega)) (g := (mkF m 10 #[.val (.ref o0), .val (.int (Int32.ofNat r)), .val (.int (Int32.ofNat t))] [(.int (Int32.ofNat r)), (.ref o0)])) rfl rfl (hb hby d6_10) _ ?_
        show Steps p.tables e below (s₁.setTop (mkF m 11 #[.val (.ref o0), .val (.int (Int32.ofNat r)), .val (.int (Int32.ofNat t))] [(.int (G r))])) _
        refine XS.bipush X0.here hx rfl (hb hby d6_11) ?_
        show Steps p.tables e below (s₁.setTop (mkF m 13 #[.val (.ref o0), .val (.int (Int32.ofNat r)), .val (.int (Int32.ofNat t))] [(.int (13 : Int32)), (.int (G r))])) _
        refine XS.icmpNo X0.here hx rfl (hb hby d6_13) rfl (teq h3).2 ?_
        show Steps p.tables e below (s₁.setTop (mkF m 16 #[.val (.ref o0), .val (.int (Int32.ofNat r)), .val (.int (Int32.ofNat t))] [])) _
        refine XS.iloadN X0.here hx rfl (hb hby d6_16) rfl ?_
        show Steps p.tables e below (s₁.setTop (mkF m 17 #[.val (.ref o0), .val (.int (Int32.ofNat r)), .val (.int (Int32.ofNat t))] [(.int (Int32.ofNat r))])) _
        refine XS.iconst X0.here hx rfl (hb hby d6_17) ?_
        show Steps p.tables e below (s₁.setTop (mkF m 18 #[.val (.ref o0), .val (.int (Int32.ofNat r)), .val (.int (Int32.ofNat t))] [(.int (1 : Int32)), (.int (Int32.ofNat r))])) _
        refine XS.iadd X0.here hx rfl (hb hby d6_18) rfl ?_
        rw [own_one]
        show Steps p.tables e below (s₁.setTop (mkF m 19 #[.val (.ref o0), .val (.int (Int32.ofNat r)), .val (.int (Int32.ofNat t))] [(.int (Int32.ofNat (r + 1)))])) _
        refine XS.iloadN X0.here hx rfl (hb hby d6_19) rfl ?_
        show Steps p.tables e below (s₁.setTop (mkF m 20 #[.val (.ref o0), .val (.int (Int32.ofNat r)), .val (.int (Int32.ofNat t))] [(.int (Int32.ofNat t)), (.int (Int32.ofNat (r + 1)))])) _
        refine XS.icmpNo X0.here hx rfl (hb hby d6_20) rfl (tlt ((own_lt (by omega) (by omega)).mpr h4)).2.1 ?_
        show Steps p.tables e below (s₁.setTop (mkF m 23 #[.val (.ref o0), .val (.int (Int32.ofNat r)), .val (.int (Int32.ofNat t))] [])) _
        refine XS.aloadN X0.here hx rfl (hb hby d6_23) rfl rfl ?_
        show Steps p.tables e below (s₁.setTop (mkF m 24 #[.val (.ref o0), .val (.int (Int32.ofNat r)), .val (.int (Int32.ofNat t))] [(.ref o0)])) _
        refine XS.iloadN X0.here hx rfl (hb hby d6_24) rfl ?_
        show Steps p.tables e below (s₁.setTop (mkF m 25 #[.val (.ref o0), .val (.int (Int32.ofNat r)), .val (.int (Int32.ofNat t))] [(.int (Int32.ofNat r)), (.ref o0)])) _
        refine XS.iconst X0.here hx rfl (hb hby d6_25) ?_
        show Steps p.tables e below (s₁.setTop (mkF m 26 #[.val (.ref o0), .val (.int (Int32.ofNat r)), .val (.int (Int32.ofNat t))] [(.int (1 : Int32)), (.int (Int32.ofNat r)), (.ref o0)])) _
        refine XS.iadd X0.here hx rfl (hb hby d6_26) rfl ?_
        rw [own_one]
        show Steps p.tables e below (s₁.setTop (mkF m 27 #[.val (.ref o0), .val (.int (Int32.ofNat r)), .val (.int (Int32.ofNat t))] [(.int (Int32.ofNat (r + 1))), (.ref o0)])) _
        refine X0.baloadBytes hx (j := (Int32.ofNat (r + 1))) (v := (.int (G (r + 1)))) (by rw [e0]; exact Ar.1) (State.isArrayOf_alike hZ.alike Ar.2.1) Ar.2.2 (own_in hsz (by omega)) (own_at hat (by omega)) (g := (mkF m 27 #[.val (.ref o0), .val (.int (Int32.ofNat r)), .val (.int (Int32.ofNat t))] [(.int (Int32.ofNat (r + 1))), (.ref o0)])) rfl rfl (hb hby d6_27) _ ?_
        show Steps p.tables e below (s₁.setTop (mkF m 28 #[.val (.ref o0), .val (.int (Int32.ofNat r)), .val (.int (Int32.ofNat t))] [(.int (G (r + 1)))])) _
        refine XS.bipush X0.here hx rfl (hb hby d6_28) ?_
        show Steps p.tables e below (s₁.setTop (mkF m 30 #[.val (.ref o0), .val (.int (Int32.ofNat r)), .val (.int (Int32.ofNat t))] [(.int (10 : Int32)), (.int (G (r + 1)))])) _
        refine XS.icmpYes X0.here hx rfl (pc0 := 30) (pc' := 37) rfl (hb hby d6_30) rfl (feq h5).2 (by decide) (by decide) ?_
        show Steps p.tables e below (s₁.setTop (mkF m 37 #[.val (.ref o0), .val (.int (Int32.ofNat r)), .val (.int (Int32.ofNat t))] [])) _
        refine XS.iconst X0.here hx rfl (hb hby d6_37) ?_
        show Steps p.tables e below (s₁.setTop (mkF m 38 #[.val (.ref o0), .val (.int (Int32.ofNat r)), .val (.int (Int32.ofNat t))] [(.int (0 : Int32))])) _
        exact retN X0 hx (t := .boolean) Bd.returns (by simp) (hb hby d6_38) hr
      · show Q_sta Z o0 r t G cl h0 n0 _ s₁.heap _
        rw [e0]
        exact ⟨rfl, N0, rfl⟩
    · obtain ⟨fs, hr, hrun, hended, hW, hsame⟩ := X0.leave (v := some (.int (0 : Int32))) (fun h => by rw [Bd.returns] at h; cases h)
      refine ⟨_, _, pre0 _ ?_, hrun, hended, _, _, rfl, ?_, ⟨_, rfl⟩, hW, hsame.mono (by decide) (by decide)⟩
      · show Steps p.tables e below (s₁.setTop (mkF m 0 #[.val (.ref o0), .val (.int (Int32.ofNat r)), .val (.int (Int32.ofNat t))] [])) _
        refine XS.aloadN X0.here hx rfl (hb hby d6_0) rfl rfl ?_
        show Steps p.tables e below (s₁.setTop (mkF m 1 #[.val (.ref o0), .val (.int (Int32.ofNat r)), .val (.int (Int32.ofNat t))] [(.ref o0)])) _
        refine XS.iloadN X0.here hx rfl (hb hby d6_1) rfl ?_
        show Steps p.tables e below (s₁.setTop (mkF m 2 #[.val (.ref o0), .val (.int (Int32.ofNat r)), .val (.int (Int32.ofNat t))] [(.int (Int32.ofNat r)), (.ref o0)])) _
        refine X0.baloadBytes hx (j := (Int32.ofNat r)) (v := (.int (G r))) (by rw [e0]; exact Ar.1) (State.isArrayOf_alike hZ.alike Ar.2.1) Ar.2.2 (own_in hsz (by omega)) (own_at hat (by omega)) (g := (mkF m 2 #[.val (.ref o0), .val (.int (Int32.ofNat r)), .val (.int (Int32.ofNat t))] [(.int (Int32.ofNat r)), (.ref o0)])) rfl rfl (hb hby d6_2) _ ?_
        show Steps p.tables e below (s₁.setTop (mkF m 3 #[.val (.ref o0), .val (.int (Int32.ofNat r)), .val (.int (Int32.ofNat t))] [(.int (G r))])) _
        refine XS.bipush X0.here hx rfl (hb hby d6_3) ?_
        show Steps p.tables e below (s₁.setTop (mkF m 5 #[.val (.ref o0), .val (.int (Int32.ofNat r)), .val (.int (Int32.ofNat t))] [(.int (10 : Int32)), (.int (G r))])) _
        refine XS.icmpNo X0.here hx rfl (hb hby d6_5) rfl (feq h2).1 ?_
        show Steps p.tables e below (s₁.setTop (mkF m 8 #[.val (.ref o0), .val (.int (Int32.ofNat r)), .val (.int (Int32.ofNat t))] [])) _
        refine XS.aloadN X0.here hx rfl (hb hby d6_8) rfl rfl ?_
        show Steps p.tables e below (s₁.setTop (mkF m 9 #[.val (.ref o0), .val (.int (Int32.ofNat r)), .val (.int (Int32.ofNat t))] [(.ref o0)])) _
        refine XS.iloadN X0.here hx rfl (hb hby d6_9) rfl ?_
        show Steps p.tables e below (s₁.setTop (mkF m 10 #[.val (.ref o0), .val (.int (Int32.ofNat r)), .val (.int (Int32.ofNat t))] [(.int (Int32.ofNat r)), (.ref o0)])) _
        refine X0.baloadBytes hx (j := (Int32.ofNat r)) (v := (.int (G r))) (by rw [e0]; exact Ar.1) (State.isArrayOf_alike hZ.alike Ar.2.1) Ar.2.2 (own_in hsz (by omega)) (own_at hat (by omega)) (g := (mkF m 10 #[.val (.ref o0), .val (.int (Int32.ofNat r)), .val (.int (Int32.ofNat t))] [(.int (Int32.ofNat r)), (.ref o0)])) rfl rfl (hb hby d6_10) _ ?_
        show Steps p.tables e below (s₁.setTop (mkF m 11 #[.val (.ref o0), .val (.int (Int32.ofNat r)), .val (.int (Int32.ofNat t))] [(.int (G r))])) _
        refine XS.bipush X0.here hx rfl (hb hby d6_11) ?_
        show Steps p.tables e below (s₁.setTop (mkF m 13 #[.val (.ref o0), .val (.int (Int32.ofNat r)), .val (.int (Int32.ofNat t))] [(.int (13 : Int32)), (.int (G r))])) _
        refine XS.icmpNo X0.here hx rfl (hb hby d6_13) rfl (teq h3).2 ?_
        show Steps p.tables e below (s₁.setTop (mkF m 16 #[.val (.ref o0), .val (.int (Int32.ofNat r)), .val (.int (Int32.ofNat t))] [])) _
        refine XS.iloadN X0.here hx rfl (hb hby d6_16) rfl ?_
        show Steps p.tables e below (s₁.setTop (mkF m 17 #[.val (.ref o0), .val (.int (Int32.ofNat r)), .val (.int (Int32.ofNat t))] [(.int (Int32.ofNat r))])) _
        refine XS.iconst X0.here hx rfl (hb hby d6_17) ?_
        show Steps p.tables e below (s₁.setTop (mkF m 18 #[.val (.ref o0), .val (.int (Int32.ofNat r)), .val (.int (Int32.ofNat t))] [(.int (1 : Int32)), (.int (Int32.ofNat r))])) _
        refine XS.iadd X0.here hx rfl (hb hby d6_18) rfl ?_
        rw [own_one]
        show Steps p.tables e below (s₁.setTop (mkF m 19 #[.val (.ref o0), .val (.int (Int32.ofNat r)), .val (.int (Int32.ofNat t))] [(.int (Int32.ofNat (r + 1)))])) _
        refine XS.iloadN X0.here hx rfl (hb hby d6_19) rfl ?_
        show Steps p.tables e below (s₁.setTop (mkF m 20 #[.val (.ref o0), .val (.int (Int32.ofNat r)), .val (.int (Int32.ofNat t))] [(.int (Int32.ofNat t)), (.int (Int32.ofNat (r + 1)))])) _
        refine XS.icmpYes X0.here hx rfl (pc0 := 20) (pc' := 37) rfl (hb hby d6_20) rfl (flt (fun q => h4 ((own_lt (by omega) (by omega)).mp q))).2.1 (by decide) (by decide) ?_
        show Steps p.tables e below (s₁.setTop (mkF m 37 #[.val (.ref o0), .val (.int (Int32.ofNat r)), .val (.int (Int32.ofNat t))] [])) _
        refine XS.iconst X0.here hx rfl (hb hby d6_37) ?_
        show Steps p.tables e below (s₁.setTop (mkF m 38 #[.val (.ref o0), .val (.int (Int32.ofNat r)), .val (.int (Int32.ofNat t))] [(.int (0 : Int32))])) _
        exact retN X0 hx (t := .boolean) Bd.returns (by simp) (hb hby d6_38) hr
      · show Q_sta Z o0 r t G cl h0 n0 _ s₁.heap _
        rw [e0]
        exact ⟨rfl, N0, rfl⟩
  · obtain ⟨fs, hr, hrun, hended, hW, hsame⟩ := X0.leave (v := some (.int (0 : Int32))) (fun h => by rw [Bd.returns] at h; cases h)
    refine ⟨_, _, pre0 _ ?_, hrun, hended, _, _, rfl, ?_, ⟨_, rfl⟩, hW, hsame.mono (by decide) (by decide)⟩
    · show Steps p.tables e below (s₁.setTop (mkF m 0 #[.val (.ref o0), .val (.int (Int32.ofNat r)), .val (.int (Int32.ofNat t))] [])) _
      refine XS.aloadN X0.here hx rfl (hb hby d6_0) rfl rfl ?_
      show Steps p.tables e below (s₁.setTop (mkF m 1 #[.val (.ref o0), .val (.int (Int32.ofNat r)), .val (.int (Int32.ofNat t))] [(.ref o0)])) _
      refine XS.iloadN X0.here hx rfl (hb hby d6_1) rfl ?_
      show Steps p.tables e below (s₁.setTop (mkF m 2 #[.val (.ref o0), .val (.int (Int32.ofNat r)), .val (.int (Int32.ofNat t))] [(.int (Int32.ofNat r)), (.ref o0)])) _
      refine X0.baloadBytes hx (j := (Int32.ofNat r)) (v := (.int (G r))) (by rw [e0]; exact Ar.1) (State.isArrayOf_alike hZ.alike Ar.2.1) Ar.2.2 (own_in hsz (by omega)) (own_at hat (by omega)) (g := (mkF m 2 #[.val (.ref o0), .val (.int (Int32.ofNat r)), .val (.int (Int32.ofNat t))] [(.int (Int32.ofNat r)), (.ref o0)])) rfl rfl (hb hby d6_2) _ ?_
      show Steps p.tables e below (s₁.setTop (mkF m 3 #[.val (.ref o0), .val (.int (Int32.ofNat r)), .val (.int (Int32.ofNat t))] [(.int (G r))])) _
      refine XS.bipush X0.here hx rfl (hb hby d6_3) ?_
      show Steps p.tables e below (s₁.setTop (mkF m 5 #[.val (.ref o0), .val (.int (Int32.ofNat r)), .val (.int (Int32.ofNat t))] [(.int (10 : Int32)), (.int (G r))])) _
      refine XS.icmpNo X0.here hx rfl (hb hby d6_5) rfl (feq h2).1 ?_
      show Steps p.tables e below (s₁.setTop (mkF m 8 #[.val (.ref o0), .val (.int (Int32.ofNat r)), .val (.int (Int32.ofNat t))] [])) _
      refine XS.aloadN X0.here hx rfl (hb hby d6_8) rfl rfl ?_
      show Steps p.tables e below (s₁.setTop (mkF m 9 #[.val (.ref o0), .val (.int (Int32.ofNat r)), .val (.int (Int32.ofNat t))] [(.ref o0)])) _
      refine XS.iloadN X0.here hx rfl (hb hby d6_9) rfl ?_
      show Steps p.tables e below (s₁.setTop (mkF m 10 #[.val (.ref o0), .val (.int (Int32.ofNat r)), .val (.int (Int32.ofNat t))] [(.int (Int32.ofNat r)), (.ref o0)])) _
      refine X0.baloadBytes hx (j := (Int32.ofNat r)) (v := (.int (G r))) (by rw [e0]; exact Ar.1) (State.isArrayOf_alike hZ.alike Ar.2.1) Ar.2.2 (own_in hsz (by omega)) (own_at hat (by omega)) (g := (mkF m 10 #[.val (.ref o0), .val (.int (Int32.ofNat r)), .val (.int (Int32.ofNat t))] [(.int (Int32.ofNat r)), (.ref o0)])) rfl rfl (hb hby d6_10) _ ?_
      show Steps p.tables e below (s₁.setTop (mkF m 11 #[.val (.ref o0), .val (.int (Int32.ofNat r)), .val (.int (Int32.ofNat t))] [(.int (G r))])) _
      refine XS.bipush X0.here hx rfl (hb hby d6_11) ?_
      show Steps p.tables e below (s₁.setTop (mkF m 13 #[.val (.ref o0), .val (.int (Int32.ofNat r)), .val (.int (Int32.ofNat t))] [(.int (13 : Int32)), (.int (G r))])) _
      refine XS.icmpYes X0.here hx rfl (pc0 := 13) (pc' := 37) rfl (hb hby d6_13) rfl (feq h3).2 (by decide) (by decide) ?_
      show Steps p.tables e below (s₁.setTop (mkF m 37 #[.val (.ref o0), .val (.int (Int32.ofNat r)), .val (.int (Int32.ofNat t))] [])) _
      refine XS.iconst X0.here hx rfl (hb hby d6_37) ?_
      show Steps p.tables e below (s₁.setTop (mkF m 38 #[.val (.ref o0), .val (.int (Int32.ofNat r)), .val (.int (Int32.ofNat t))] [(.int (0 : Int32))])) _
      exact retN X0 hx (t := .boolean) Bd.returns (by simp) (hb hby d6_38) hr
    · show Q_sta Z o0 r t G cl h0 n0 _ s₁.heap _
      rw [e0]
      exact ⟨rfl, N0, rfl⟩
def own_G (p0 : Int32) (p1 : Int64) : Nat → Int32
  | 0 => nar .byte (f_pick p0 p1 (0 : Int32))
  | 1 => nar .byte (f_pick p0 p1 (1 : Int32))
  | 2 => nar .byte (f_pick p0 p1 (2 : Int32))
  | 3 => nar .byte (f_pick p0 p1 (3 : Int32))
  | _ => nar .byte (f_pick p0 p1 (4 : Int32))
theorem pn_law : plainName "com/example/elgin/elgin/broker/RequestHeadSkipEmptyLinesPinLaw" = true := by first | (simp [plainName, overriddenIn]; done) | decide +kernel
theorem pd_law_0 : parseMethodDescriptor "(IJI)B" = some ⟨[.int, .long, .int], some .byte⟩ := by decide +kernel
theorem pd_law_1 : parseMethodDescriptor "(II)I" = some ⟨[.int, .int], some .int⟩ := by decide +kernel
theorem pd_law_2 : parseMethodDescriptor "([BII)I" = some ⟨[(.array .byte), .int, .int], some .int⟩ := by decide +kernel
theorem pd_law_3 : parseMethodDescriptor "([BIII)Z" = some ⟨[(.array .byte), .int, .int, .int], some .boolean⟩ := by decide +kernel
theorem pd_law_4 : parseMethodDescriptor "([BII)Z" = some ⟨[(.array .byte), .int, .int], some .boolean⟩ := by decide +kernel
theorem ef_law (m : MethodId) (p0 : Int32) (p1 : Int64) (p2 : Int32) (p3 : Int32) : entryFrame m #[(.int p0), (.long p1), (.int p2), (.int p3)] maxLocals = mkF m 0 #[.val (.int p0), .val (.long p1), .second, .val (.int p2), .val (.int p3), .unset, .unset, .unset, .unset, .unset, .unset] [] := by first | (simp [entryFrame, mkF, argsToLocals, Value.category, maxLocals]; done) | rfl
def Q_law (Z : State) (p0 : Int32) (p1 : Int64) (p2 : Int32) (p3 : Int32) (h0 : Heap) (n0 : Nat) (v : Option Value) (h : Heap) (L : List Loc) : Prop := v = some (.int (1 : Int32)) ∧ Fr n0 L
set_option maxRecDepth 65536 in
set_option maxHeartbeats 40000000 in
theorem rm_law (l : Launch) (Z : State) (a0 : Array Value) (hw : ∀ d ∈ tables_1, d.before a0 Z = true) (ws : List Jvm.Cond) (p0 : Int32) (p1 : Int64) (p2 : Int32) (p3 : Int32) (h0 : Heap) (n0 : Nat) (Z0 : n0 ≤ h0.size) :
    MetFree l x (head1 (Jvm.Cond.code x code maxLocals ret :: ws) room_1) (fun a U => a = #[(.int p0), (.long p1), (.int p2), (.int p3)] ∧ Z.Warmed39 U.vm ∧ U.heap = h0) (fun _ _ _ _ _ => True) (fun _ U o U' => ∃ v L, o = .returned v ∧ Q_law Z p0 p1 p2 p3 h0 n0 v U'.heap L ∧ FrameEnd U o U' L room_1.cells room_1.slots) := by
  refine MetFree.of_bodySF (plainFor_of_name pn_law) hisR ?_
  intro p e s m args below meth c s₁ Bd hml0 hP hK
  obtain ⟨rfl, hZ, hh⟩ := hP
  have hx := Bd.exec
  have hby := Bd.bytes
  have hml : c.maxLocals = 11 := hml0
  have hown : s.vm.findClass "com/example/elgin/elgin/broker/RequestHeadSkipEmptyLinesPinLaw" = some m.cls := findClass_of_methodNamed Bd.named
  have hnm := (name_of_methodNamed Bd.named Bd.method).1
  have X0 : Stand p l e room_1 s m #[(.int p0), (.long p1), (.int p2), (.int p3)] below meth c s₁ [] 0 0 := Stand.of_body Bd
  have e0 : s₁.heap = h0 := by rw [← hh, Bd.state]; rfl
  have N0 := Fr.nil n0
  have pre0 : ∀ tg, Steps p.tables e below (s₁.setTop (mkF m 0 #[.val (.int p0), .val (.long p1), .second, .val (.int p2), .val (.int p3), .unset, .unset, .unset, .unset, .unset, .unset] [])) tg → Steps p.tables e below (s₁.setTop (entryFrame m #[(.int p0), (.long p1), (.int p2), (.int p3)] maxLocals)) tg := fun tg kg => castTop (ef_law m p0 p1 p2 p3) kg
  obtain ⟨a, ha5, ea⟩ := own_mod p2
  obtain ⟨b, hb5, eb⟩ := own_mod p3
  obtain ⟨Tr1, hr1, kr1, Xr1, er1, Er1, Ar1, str1⟩ := newP X0 hx hZ (hw _ (List.mem_of_getElem? (i := 0) rfl)) e0 (g := (mkF m 1 #[.val (.int p0), .val (.long p1), .second, .val (.int p2), .val (.int p3), .unset, .unset, .unset, .unset, .unset, .unset] [(.int (5 : Int32))])) rfl (hb hby at_1) rfl (by decide) (cap := 5) (by decide) (by decide) (by decide) (by decide)
  obtain ⟨br1, gr1⟩ : ∃ z, z = h0.size := ⟨_, rfl⟩
  rw [← gr1] at Ar1 str1
  have Vr1 : Arv Z hr1 br1 kr1 .byte (5 : Int32) [(.int (0 : Int32)), (.int (0 : Int32)), (.int (0 : Int32)), (.int (0 : Int32)), (.int (0 : Int32))] (.int (0 : Int32)) := (Arv.new Ar1 (by decide)).pad (pad_rep [] (.int (0 : Int32)) 5)
  have g_br1 : n0 ≤ br1 := Nat.le_trans Z0 (Nat.le_of_eq gr1.symm)
  have Zr1 : n0 ≤ hr1.size := Nat.le_trans Z0 Er1.1
  obtain ⟨_, _, ⟨Tr2, Lr2, kr2, nr2⟩, -, Xr2, ⟨Lcr2, hQr2, lr2, yr2, zr2⟩, str2⟩ := Jvm.LawKit.callS Xr1 hx (y := (⟨"com/example/elgin/elgin/broker/RequestHeadSkipEmptyLinesPinLaw", "pick", "(IJI)B"⟩ : MethodName)) hown (mvT hZ (hw _ (List.mem_of_getElem? (i := 1) rfl))) (mvT hZ (hw _ (List.mem_of_getElem? (i := 2) rfl))) (mvT hZ (hw _ (List.mem_of_getElem? (i := 3) rfl))) (mvT hZ (hw _ (List.mem_of_getElem? (i := 4) rfl))) (by decide) (backOf (W := 2) (rm_pick l Z a0 hw [] p0 p1 (0 : Int32)  hr1 n0 Zr1 ) hZ (hw _ (List.mem_of_getElem? (i := 4) rfl)) (hw _ (List.mem_of_getElem? (i := 3) rfl)) (by decide) (by decide)) (g := (mkF m 11 #[.val (.int p0), .val (.long p1), .second, .val (.int p2), .val (.int p3), .val (.ref br1), .unset, .unset, .unset, .unset, .unset] [(.int (0 : Int32)), (.long p1), (.int p0), (.int (0 : Int32)), (.ref br1)])) rfl (by rw [hml]; rfl) (argsL := [(.int p0), (.long p1), (.int (0 : Int32))]) (rest := [(.int (0 : Int32)), (.ref br1)]) (lenOf pd_law_0 rfl) rfl (by show 2 * 0 + _ ≤ _; exact Nat.le_of_eq rfl) (hb hby at_11) (fun _ _ => ⟨rfl, er1, (by decide : 1 + 0 ≤ _), (by decide : 5 + 0 ≤ _)⟩)
  dsimp only [Pt.U, Pt.locs, Pt.cells, Pt.slots] at Xr2 lr2 yr2 zr2 str2 hQr2
  subst lr2 yr2 zr2
  obtain ⟨rfl, Nr2q, er2⟩ := hQr2
  have Nr2 := Fr.app N0 Nr2q
  obtain ⟨cr3, Ar3, qr3, Sr3, Mr3, Hr3, Ur3⟩ := id Vr1
  obtain ⟨Tr3, hr3, Xr3, er3, Wr3, str3⟩ := stB Xr2 hx hZ er2 Ar3 (j := (0 : Int32)) (inb_of Sr3 ⟨(by decide : ¬ ((0 : Int32) < (0 : Int32))), (by decide : (0 : Int32) < (5 : Int32))⟩) (g := (mkF m 14 #[.val (.int p0), .val (.long p1), .second, .val (.int p2), .val (.int p3), .val (.ref br1), .unset, .unset, .unset, .unset, .unset] [(.int (f_pick p0 p1 (0 : Int32))), (.int (0 : Int32)), (.ref br1)])) rfl rfl (hb hby at_14)
  have Nr3 := Fr.snoc Xr3 Nr2 g_br1
  have Vr3 := Arv.set Ar3 qr3 Sr3 Mr3 Hr3 Ur3 (fits_nar_byte _) Wr3 0 rfl (Nat.le_of_ble_eq_true rfl)
  have Zr3 : n0 ≤ hr3.size := Nat.le_trans Zr1 (Keep.of_wr Wr3).1
  obtain ⟨_, _, ⟨Tr4, Lr4, kr4, nr4⟩, -, Xr4, ⟨Lcr4, hQr4, lr4, yr4, zr4⟩, str4⟩ := Jvm.LawKit.callS Xr3 hx (y := (⟨"com/example/elgin/elgin/broker/RequestHeadSkipEmptyLinesPinLaw", "pick", "(IJI)B"⟩ : MethodName)) hown (mvT hZ (hw _ (List.mem_of_getElem? (i := 1) rfl))) (mvT hZ (hw _ (List.mem_of_getElem? (i := 2) rfl))) (mvT hZ (hw _ (List.mem_of_getElem? (i := 3) rfl))) (mvT hZ (hw _ (List.mem_of_getElem? (i := 4) rfl))) (by decide) (backOf (W := 2) (rm_pick l Z a0 hw [] p0 p1 (1 : Int32)  hr3 n0 Zr3 ) hZ (hw _ (List.mem_of_getElem? (i := 4) rfl)) (hw _ (List.mem_of_getElem? (i := 3) rfl)) (by decide) (by decide)) (g := (mkF m 21 #[.val (.int p0), .val (.long p1), .second, .val (.int p2), .val (.int p3), .val (.ref br1), .unset, .unset, .unset, .unset, .unset] [(.int (1 : Int32)), (.long p1), (.int p0), (.int (1 : Int32)), (.ref br1)])) rfl (by rw [hml]; rfl) (argsL := [(.int p0), (.long p1), (.int (1 : Int32))]) (rest := [(.int (1 : Int32)), (.ref br1)]) (lenOf pd_law_0 rfl) rfl (by show 2 * 0 + _ ≤ _; exact Nat.le_of_eq rfl) (hb hby at_21) (fun _ _ => ⟨rfl, er3, (by decide : 1 + 0 ≤ _), (by decide : 5 + 0 ≤ _)⟩)
  dsimp only [Pt.U, Pt.locs, Pt.cells, Pt.slots] at Xr4 lr4 yr4 zr4 str4 hQr4
  subst lr4 yr4 zr4
  obtain ⟨rfl, Nr4q, er4⟩ := hQr4
  have Nr4 := Fr.app Nr3 Nr4q
  obtain ⟨cr5, Ar5, qr5, Sr5, Mr5, Hr5, Ur5⟩ := id Vr3
  obtain ⟨Tr5, hr5, Xr5, er5, Wr5, str5⟩ := stB Xr4 hx hZ er4 Ar5 (j := (1 : Int32)) (inb_of Sr5 ⟨(by decide : ¬ ((1 : Int32) < (0 : Int32))), (by decide : (1 : Int32) < (5 : Int32))⟩) (g := (mkF m 24 #[.val (.int p0), .val (.long p1), .second, .val (.int p2), .val (.int p3), .val (.ref br1), .unset, .unset, .unset, .unset, .unset] [(.int (f_pick p0 p1 (1 : Int32))), (.int (1 : Int32)), (.ref br1)])) rfl rfl (hb hby at_24)
  have Nr5 := Fr.snoc Xr5 Nr4 g_br1
  have Vr5 := Arv.set Ar5 qr5 Sr5 Mr5 Hr5 Ur5 (fits_nar_byte _) Wr5 1 rfl (Nat.le_of_ble_eq_true rfl)
  have Zr5 : n0 ≤ hr5.size := Nat.le_trans Zr3 (Keep.of_wr Wr5).1
  obtain ⟨_, _, ⟨Tr6, Lr6, kr6, nr6⟩, -, Xr6, ⟨Lcr6, hQr6, lr6, yr6, zr6⟩, str6⟩ := Jvm.LawKit.callS Xr5 hx (y := (⟨"com/example/elgin/elgin/broker/RequestHeadSkipEmptyLinesPinLaw", "pick", "(IJI)B"⟩ : MethodName)) hown (mvT hZ (hw _ (List.mem_of_getElem? (i := 1) rfl))) (mvT hZ (hw _ (List.mem_of_getElem? (i := 2) rfl))) (mvT hZ (hw _ (List.mem_of_getElem? (i := 3) rfl))) (mvT hZ (hw _ (List.mem_of_getElem? (i := 4) rfl))) (by decide) (backOf (W := 2) (rm_pick l Z a0 hw [] p0 p1 (2 : Int32)  hr5 n0 Zr5 ) hZ (hw _ (List.mem_of_getElem? (i := 4) rfl)) (hw _ (List.mem_of_getElem? (i := 3) rfl)) (by decide) (by decide)) (g := (mkF m 31 #[.val (.int p0), .val (.long p1), .second, .val (.int p2), .val (.int p3), .val (.ref br1), .unset, .unset, .unset, .unset, .unset] [(.int (2 : Int32)), (.long p1), (.int p0), (.int (2 : Int32)), (.ref br1)])) rfl (by rw [hml]; rfl) (argsL := [(.int p0), (.long p1), (.int (2 : Int32))]) (rest := [(.int (2 : Int32)), (.ref br1)]) (lenOf pd_law_0 rfl) rfl (by show 2 * 0 + _ ≤ _; exact Nat.le_of_eq rfl) (hb hby at_31) (fun _ _ => ⟨rfl, er5, (by decide : 1 + 0 ≤ _), (by decide : 5 + 0 ≤ _)⟩)
  dsimp only [Pt.U, Pt.locs, Pt.cells, Pt.slots] at Xr6 lr6 yr6 zr6 str6 hQr6
  subst lr6 yr6 zr6
  obtain ⟨rfl, Nr6q, er6⟩ := hQr6
  have Nr6 := Fr.app Nr5 Nr6q
  obtain ⟨cr7, Ar7, qr7, Sr7, Mr7, Hr7, Ur7⟩ := id Vr5
  obtain ⟨Tr7, hr7, Xr7, er7, Wr7, str7⟩ := stB Xr6 hx hZ er6 Ar7 (j := (2 : Int32)) (inb_of Sr7 ⟨(by decide : ¬ ((2 : Int32) < (0 : Int32))), (by decide : (2 : Int32) < (5 : Int32))⟩) (g := (mkF m 34 #[.val (.int p0), .val (.long p1), .second, .val (.int p2), .val (.int p3), .val (.ref br1), .unset, .unset, .unset, .unset, .unset] [(.int (f_pick p0 p1 (2 : Int32))), (.int (2 : Int32)), (.ref br1)])) rfl rfl (hb hby at_34)
  have Nr7 := Fr.snoc Xr7 Nr6 g_br1
  have Vr7 := Arv.set Ar7 qr7 Sr7 Mr7 Hr7 Ur7 (fits_nar_byte _) Wr7 2 rfl (Nat.le_of_ble_eq_true rfl)
  have Zr7 : n0 ≤ hr7.size := Nat.le_trans Zr5 (Keep.of_wr Wr7).1
  obtain ⟨_, _, ⟨Tr8, Lr8, kr8, nr8⟩, -, Xr8, ⟨Lcr8, hQr8, lr8, yr8, zr8⟩, str8⟩ := Jvm.LawKit.callS Xr7 hx (y := (⟨"com/example/elgin/elgin/broker/RequestHeadSkipEmptyLinesPinLaw", "pick", "(IJI)B"⟩ : MethodName)) hown (mvT hZ (hw _ (List.mem_of_getElem? (i := 1) rfl))) (mvT hZ (hw _ (List.mem_of_getElem? (i := 2) rfl))) (mvT hZ (hw _ (List.mem_of_getElem? (i := 3) rfl))) (mvT hZ (hw _ (List.mem_of_getElem? (i := 4) rfl))) (by decide) (backOf (W := 2) (rm_pick l Z a0 hw [] p0 p1 (3 : Int32)  hr7 n0 Zr7 ) hZ (hw _ (List.mem_of_getElem? (i := 4) rfl)) (hw _ (List.mem_of_getElem? (i := 3) rfl)) (by decide) (by decide)) (g := (mkF m 41 #[.val (.int p0), .val (.long p1), .second, .val (.int p2), .val (.int p3), .val (.ref br1), .unset, .unset, .unset, .unset, .unset] [(.int (3 : Int32)), (.long p1), (.int p0), (.int (3 : Int32)), (.ref br1)])) rfl (by rw [hml]; rfl) (argsL := [(.int p0), (.long p1), (.int (3 : Int32))]) (rest := [(.int (3 : Int32)), (.ref br1)]) (lenOf pd_law_0 rfl) rfl (by show 2 * 0 + _ ≤ _; exact Nat.le_of_eq rfl) (hb hby at_41) (fun _ _ => ⟨rfl, er7, (by decide : 1 + 0 ≤ _), (by decide : 5 + 0 ≤ _)⟩)
  dsimp only [Pt.U, Pt.locs, Pt.cells, Pt.slots] at Xr8 lr8 yr8 zr8 str8 hQr8
  subst lr8 yr8 zr8
  obtain ⟨rfl, Nr8q, er8⟩ := hQr8
  have Nr8 := Fr.app Nr7 Nr8q
  obtain ⟨cr9, Ar9, qr9, Sr9, Mr9, Hr9, Ur9⟩ := id Vr7
  obtain ⟨Tr9, hr9, Xr9, er9, Wr9, str9⟩ := stB Xr8 hx hZ er8 Ar9 (j := (3 : Int32)) (inb_of Sr9 ⟨(by decide : ¬ ((3 : Int32) < (0 : Int32))), (by decide : (3 : Int32) < (5 : Int32))⟩) (g := (mkF m 44 #[.val (.int p0), .val (.long p1), .second, .val (.int p2), .val (.int p3), .val (.ref br1), .unset, .unset, .unset, .unset, .unset] [(.int (f_pick p0 p1 (3 : Int32))), (.int (3 : Int32)), (.ref br1)])) rfl rfl (hb hby at_44)
  have Nr9 := Fr.snoc Xr9 Nr8 g_br1
  have Vr9 := Arv.set Ar9 qr9 Sr9 Mr9 Hr9 Ur9 (fits_nar_byte _) Wr9 3 rfl (Nat.le_of_ble_eq_true rfl)
  have Zr9 : n0 ≤ hr9.size := Nat.le_trans Zr7 (Keep.of_wr Wr9).1
  obtain ⟨_, _, ⟨Tr10, Lr10, kr10, nr10⟩, -, Xr10, ⟨Lcr10, hQr10, lr10, yr10, zr10⟩, str10⟩ := Jvm.LawKit.callS Xr9 hx (y := (⟨"com/example/elgin/elgin/broker/RequestHeadSkipEmptyLinesPinLaw", "pick", "(IJI)B"⟩ : MethodName)) hown (mvT hZ (hw _ (List.mem_of_getElem? (i := 1) rfl))) (mvT hZ (hw _ (List.mem_of_getElem? (i := 2) rfl))) (mvT hZ (hw _ (List.mem_of_getElem? (i := 3) rfl))) (mvT hZ (hw _ (List.mem_of_getElem? (i := 4) rfl))) (by decide) (backOf (W := 2) (rm_pick l Z a0 hw [] p0 p1 (4 : Int32)  hr9 n0 Zr9 ) hZ (hw _ (List.mem_of_getElem? (i := 4) rfl)) (hw _ (List.mem_of_getElem? (i := 3) rfl)) (by decide) (by decide)) (g := (mkF m 51 #[.val (.int p0), .val (.long p1), .second, .val (.int p2), .val (.int p3), .val (.ref br1), .unset, .unset, .unset, .unset, .unset] [(.int (4 : Int32)), (.long p1), (.int p0), (.int (4 : Int32)), (.ref br1)])) rfl (by rw [hml]; rfl) (argsL := [(.int p0), (.long p1), (.int (4 : Int32))]) (rest := [(.int (4 : Int32)), (.ref br1)]) (lenOf pd_law_0 rfl) rfl (by show 2 * 0 + _ ≤ _; exact Nat.le_of_eq rfl) (hb hby at_51) (fun _ _ => ⟨rfl, er9, (by decide : 1 + 0 ≤ _), (by decide : 5 + 0 ≤ _)⟩)
  dsimp only [Pt.U, Pt.locs, Pt.cells, Pt.slots] at Xr10 lr10 yr10 zr10 str10 hQr10
  subst lr10 yr10 zr10
  obtain ⟨rfl, Nr10q, er10⟩ := hQr10
  have Nr10 := Fr.app Nr9 Nr10q
  obtain ⟨cr11, Ar11, qr11, Sr11, Mr11, Hr11, Ur11⟩ := id Vr9
  obtain ⟨Tr11, hr11, Xr11, er11, Wr11, str11⟩ := stB Xr10 hx hZ er10 Ar11 (j := (4 : Int32)) (inb_of Sr11 ⟨(by decide : ¬ ((4 : Int32) < (0 : Int32))), (by decide : (4 : Int32) < (5 : Int32))⟩) (g := (mkF m 54 #[.val (.int p0), .val (.long p1), .second, .val (.int p2), .val (.int p3), .val (.ref br1), .unset, .unset, .unset, .unset, .unset] [(.int (f_pick p0 p1 (4 : Int32))), (.int (4 : Int32)), (.ref br1)])) rfl rfl (hb hby at_54)
  have Nr11 := Fr.snoc Xr11 Nr10 g_br1
  have Vr11 := Arv.set Ar11 qr11 Sr11 Mr11 Hr11 Ur11 (fits_nar_byte _) Wr11 4 rfl (Nat.le_of_ble_eq_true rfl)
  have Zr11 : n0 ≤ hr11.size := Nat.le_trans Zr9 (Keep.of_wr Wr11).1
  obtain ⟨cl, Ar, -, Sl, -, Hl, -⟩ := id Vr11
  have hsz : cl.slots.size = 5 := Sl
  have hat : ∀ j, j < 5 → cl.slots[j]? = some (.int (own_G p0 p1 j)) := fun j hj => by
    have q := Hl j (by rw [hsz]; exact hj)
    match j, hj with
    | 0, _ => exact q
    | 1, _ => exact q
    | 2, _ => exact q
    | 3, _ => exact q
    | 4, _ => exact q
  obtain ⟨_, _, ⟨Tr12, Lr12, kr12, nr12⟩, -, Xr12, ⟨Lcr12, hQr12, lr12, yr12, zr12⟩, str12⟩ := Jvm.LawKit.callS Xr11 hx (y := (⟨"java/lang/Math", "min", "(II)I"⟩ : MethodName)) hown (mvT hZ (hw _ (List.mem_of_getElem? (i := 6) rfl))) (mvT hZ (hw _ (List.mem_of_getElem? (i := 7) rfl))) (mvT hZ (hw _ (List.mem_of_getElem? (i := 8) rfl))) (mvT hZ (hw _ (List.mem_of_getElem? (i := 9) rfl))) (by decide) (backOf (W := 0) (rm_min l Z a0 hw [] (Int32.ofNat a) (Int32.ofNat b)  hr11 n0 Zr11 ) hZ (hw _ (List.mem_of_getElem? (i := 9) rfl)) (hw _ (List.mem_of_getElem? (i := 8) rfl)) (by decide) (by decide)) (g := (mkF m 78 #[.val (.int p0), .val (.long p1), .second, .val (.int p2), .val (.int p3), .val (.ref br1), .val (.int (Int32.ofNat a)), .val (.int (Int32.ofNat b)), .unset, .unset, .unset] [(.int (Int32.ofNat b)), (.int (Int32.ofNat a))])) rfl (by rw [hml]; rfl) (argsL := [(.int (Int32.ofNat a)), (.int (Int32.ofNat b))]) (rest := []) (lenOf pd_law_1 rfl) rfl (by show 2 * 0 + _ ≤ _; exact Nat.le_of_eq rfl) (hb hby at_78) (fun _ _ => ⟨rfl, er11, (by decide : 1 + 0 ≤ _), (by decide : 5 + 0 ≤ _)⟩)
  dsimp only [Pt.U, Pt.locs, Pt.cells, Pt.slots] at Xr12 lr12 yr12 zr12 str12 hQr12
  subst lr12 yr12 zr12
  obtain ⟨rfl, Nr12q, er12⟩ := hQr12
  have Nr12 := Fr.app Nr11 Nr12q
  obtain ⟨_, _, ⟨Tr13, Lr13, kr13, nr13⟩, -, Xr13, ⟨Lcr13, hQr13, lr13, yr13, zr13⟩, str13⟩ := Jvm.LawKit.callS Xr12 hx (y := (⟨"java/lang/Math", "max", "(II)I"⟩ : MethodName)) hown (mvT hZ (hw _ (List.mem_of_getElem? (i := 10) rfl))) (mvT hZ (hw _ (List.mem_of_getElem? (i := 11) rfl))) (mvT hZ (hw _ (List.mem_of_getElem? (i := 8) rfl))) (mvT hZ (hw _ (List.mem_of_getElem? (i := 12) rfl))) (by decide) (backOf (W := 0) (rm_max l Z a0 hw [] (Int32.ofNat a) (Int32.ofNat b)  hr11 n0 Zr11 ) hZ (hw _ (List.mem_of_getElem? (i := 12) rfl)) (hw _ (List.mem_of_getElem? (i := 8) rfl)) (by decide) (by decide)) (g := (mkF m 87 #[.val (.int p0), .val (.long p1), .second, .val (.int p2), .val (.int p3), .val (.ref br1), .val (.int (Int32.ofNat a)), .val (.int (Int32.ofNat b)), .val (.int (Int32.ofNat (min a b))), .unset, .unset] [(.int (Int32.ofNat b)), (.int (Int32.ofNat a))])) rfl (by rw [hml]; rfl) (argsL := [(.int (Int32.ofNat a)), (.int (Int32.ofNat b))]) (rest := []) (lenOf pd_law_1 rfl) rfl (by show 2 * 0 + _ ≤ _; exact Nat.le_of_eq rfl) (hb hby at_87) (fun _ _ => ⟨rfl, er12, (by decide : 1 + 0 ≤ _), (by decide : 5 + 0 ≤ _)⟩)
  dsimp only [Pt.U, Pt.locs, Pt.cells, Pt.slots] at Xr13 lr13 yr13 zr13 str13 hQr13
  subst lr13 yr13 zr13
  obtain ⟨rfl, Nr13q, er13⟩ := hQr13
  have Nr13 := Fr.app Nr12 Nr13q
  obtain ⟨_, _, ⟨Tr14, Lr14, kr14, nr14⟩, -, Xr14, ⟨Lcr14, hQr14, lr14, yr14, zr14⟩, str14⟩ := Jvm.LawKit.callS Xr13 hx (y := (⟨"com/example/elgin/elgin/broker/RequestHead", "skipEmptyLines", "([BII)I"⟩ : MethodName)) hown (mvT hZ (hw _ (List.mem_of_getElem? (i := 13) rfl))) (mvT hZ (hw _ (List.mem_of_getElem? (i := 14) rfl))) (mvT hZ (hw _ (List.mem_of_getElem? (i := 15) rfl))) (mvT hZ (hw _ (List.mem_of_getElem? (i := 16) rfl))) (by decide) (backOf (W := 0) (rm_skip l Z a0 hw [] br1 (min a b) (max a b) (own_G p0 p1) cl hr11 n0 Zr11 Ar hsz hat (by omega) (by omega)) hZ (hw _ (List.mem_of_getElem? (i := 16) rfl)) (hw _ (List.mem_of_getElem? (i := 15) rfl)) (by decide) (by decide)) (g := (mkF m 98 #[.val (.int p0), .val (.long p1), .second, .val (.int p2), .val (.int p3), .val (.ref br1), .val (.int (Int32.ofNat a)), .val (.int (Int32.ofNat b)), .val (.int (Int32.ofNat (min a b))), .val (.int (Int32.ofNat (max a b))), .unset] [(.int (Int32.ofNat (max a b))), (.int (Int32.ofNat (min a b))), (.ref br1)])) rfl (by rw [hml]; rfl) (argsL := [(.ref br1), (.int (Int32.ofNat (min a b))), (.int (Int32.ofNat (max a b)))]) (rest := []) (lenOf pd_law_2 rfl) rfl (by show 2 * 0 + _ ≤ _; exact Nat.le_of_eq rfl) (hb hby at_98) (fun _ _ => ⟨rfl, er13, (by decide : 1 + 0 ≤ _), (by decide : 5 + 0 ≤ _)⟩)
  dsimp only [Pt.U, Pt.locs, Pt.cells, Pt.slots] at Xr14 lr14 yr14 zr14 str14 hQr14
  subst lr14 yr14 zr14
  obtain ⟨⟨r, rfl, r1, r2, r3, r4⟩, Nr14q, er14⟩ := hQr14
  have Nr14 := Fr.app Nr13 Nr14q
  by_cases hc : r = max a b
  · obtain ⟨_, _, ⟨Tr15, Lr15, kr15, nr15⟩, -, Xr15, ⟨Lcr15, hQr15, lr15, yr15, zr15⟩, str15⟩ := Jvm.LawKit.callS Xr14 hx (y := (⟨"com/example/elgin/elgin/broker/RequestHeadSkipEmptyLinesPinLaw", "inEmptyLines", "([BIII)Z"⟩ : MethodName)) hown (mvT hZ (hw _ (List.mem_of_getElem? (i := 17) rfl))) (mvT hZ (hw _ (List.mem_of_getElem? (i := 18) rfl))) (mvT hZ (hw _ (List.mem_of_getElem? (i := 3) rfl))) (mvT hZ (hw _ (List.mem_of_getElem? (i := 19) rfl))) (by decide) (backOf (W := 0) (rm_inl l Z a0 hw [] br1 0 (min a b) r (own_G p0 p1) cl hr11 n0 Zr11 Ar hsz hat (by decide) (by omega) (by omega) (r3 0)) hZ (hw _ (List.mem_of_getElem? (i := 19) rfl)) (hw _ (List.mem_of_getElem? (i := 3) rfl)) (by decide) (by decide)) (g := (mkF m 126 #[.val (.int p0), .val (.long p1), .second, .val (.int p2), .val (.int p3), .val (.ref br1), .val (.int (Int32.ofNat a)), .val (.int (Int32.ofNat b)), .val (.int (Int32.ofNat (min a b))), .val (.int (Int32.ofNat (max a b))), .val (.int (Int32.ofNat r))] [(.int (Int32.ofNat r)), (.int (Int32.ofNat (min a b))), (.int (0 : Int32)), (.ref br1)])) rfl (by rw [hml]; rfl) (argsL := [(.ref br1), (.int (0 : Int32)), (.int (Int32.ofNat (min a b))), (.int (Int32.ofNat r))]) (rest := []) (lenOf pd_law_3 rfl) rfl (by show 2 * 0 + _ ≤ _; exact Nat.le_of_eq rfl) (hb hby at_126) (fun _ _ => ⟨rfl, er14, (by decide : 1 + 0 ≤ _), (by decide : 5 + 0 ≤ _)⟩)
    dsimp only [Pt.U, Pt.locs, Pt.cells, Pt.slots] at Xr15 lr15 yr15 zr15 str15 hQr15
    subst lr15 yr15 zr15
    obtain ⟨rfl, Nr15q, er15⟩ := hQr15
    have Nr15 := Fr.app Nr14 Nr15q
    obtain ⟨_, _, ⟨Tr16, Lr16, kr16, nr16⟩, -, Xr16, ⟨Lcr16, hQr16, lr16, yr16, zr16⟩, str16⟩ := Jvm.LawKit.callS Xr15 hx (y := (⟨"com/example/elgin/elgin/broker/RequestHeadSkipEmptyLinesPinLaw", "inEmptyLines", "([BIII)Z"⟩ : MethodName)) hown (mvT hZ (hw _ (List.mem_of_getElem? (i := 17) rfl))) (mvT hZ (hw _ (List.mem_of_getElem? (i := 18) rfl))) (mvT hZ (hw _ (List.mem_of_getElem? (i := 3) rfl))) (mvT hZ (hw _ (List.mem_of_getElem? (i := 19) rfl))) (by decide) (backOf (W := 0) (rm_inl l Z a0 hw [] br1 1 (min a b) r (own_G p0 p1) cl hr11 n0 Zr11 Ar hsz hat (by decide) (by omega) (by omega) (r3 1)) hZ (hw _ (List.mem_of_getElem? (i := 19) rfl)) (hw _ (List.mem_of_getElem? (i := 3) rfl)) (by decide) (by decide)) (g := (mkF m 139 #[.val (.int p0), .val (.long p1), .second, .val (.int p2), .val (.int p3), .val (.ref br1), .val (.int (Int32.ofNat a)), .val (.int (Int32.ofNat b)), .val (.int (Int32.ofNat (min a b))), .val (.int (Int32.ofNat (max a b))), .val (.int (Int32.ofNat r))] [(.int (Int32.ofNat r)), (.int (Int32.ofNat (min a b))), (.int (1 : Int32)), (.ref br1)])) rfl (by rw [hml]; rfl) (argsL := [(.ref br1), (.int (1 : Int32)), (.int (Int32.ofNat (min a b))), (.int (Int32.ofNat r))]) (rest := []) (lenOf pd_law_3 rfl) rfl (by show 2 * 0 + _ ≤ _; exact Nat.le_of_eq rfl) (hb hby at_139) (fun _ _ => ⟨rfl, er15, (by decide : 1 + 0 ≤ _), (by decide : 5 + 0 ≤ _)⟩)
    dsimp only [Pt.U, Pt.locs, Pt.cells, Pt.slots] at Xr16 lr16 yr16 zr16 str16 hQr16
    subst lr16 yr16 zr16
    obtain ⟨rfl, Nr16q, er16⟩ := hQr16
    have Nr16 := Fr.app Nr15 Nr16q
    obtain ⟨_, _, ⟨Tr17, Lr17, kr17, nr17⟩, -, Xr17, ⟨Lcr17, hQr17, lr17, yr17, zr17⟩, str17⟩ := Jvm.LawKit.callS Xr16 hx (y := (⟨"com/example/elgin/elgin/broker/RequestHeadSkipEmptyLinesPinLaw", "inEmptyLines", "([BIII)Z"⟩ : MethodName)) hown (mvT hZ (hw _ (List.mem_of_getElem? (i := 17) rfl))) (mvT hZ (hw _ (List.mem_of_getElem? (i := 18) rfl))) (mvT hZ (hw _ (List.mem_of_getElem? (i := 3) rfl))) (mvT hZ (hw _ (List.mem_of_getElem? (i := 19) rfl))) (by decide) (backOf (W := 0) (rm_inl l Z a0 hw [] br1 2 (min a b) r (own_G p0 p1) cl hr11 n0 Zr11 Ar hsz hat (by decide) (by omega) (by omega) (r3 2)) hZ (hw _ (List.mem_of_getElem? (i := 19) rfl)) (hw _ (List.mem_of_getElem? (i := 3) rfl)) (by decide) (by decide)) (g := (mkF m 152 #[.val (.int p0), .val (.long p1), .second, .val (.int p2), .val (.int p3), .val (.ref br1), .val (.int (Int32.ofNat a)), .val (.int (Int32.ofNat b)), .val (.int (Int32.ofNat (min a b))), .val (.int (Int32.ofNat (max a b))), .val (.int (Int32.ofNat r))] [(.int (Int32.ofNat r)), (.int (Int32.ofNat (min a b))), (.int (2 : Int32)), (.ref br1)])) rfl (by rw [hml]; rfl) (argsL := [(.ref br1), (.int (2 : Int32)), (.int (Int32.ofNat (min a b))), (.int (Int32.ofNat r))]) (rest := []) (lenOf pd_law_3 rfl) rfl (by show 2 * 0 + _ ≤ _; exact Nat.le_of_eq rfl) (hb hby at_152) (fun _ _ => ⟨rfl, er16, (by decide : 1 + 0 ≤ _), (by decide : 5 + 0 ≤ _)⟩)
    dsimp only [Pt.U, Pt.locs, Pt.cells, Pt.slots] at Xr17 lr17 yr17 zr17 str17 hQr17
    subst lr17 yr17 zr17
    obtain ⟨rfl, Nr17q, er17⟩ := hQr17
    have Nr17 := Fr.app Nr16 Nr17q
    obtain ⟨_, _, ⟨Tr18, Lr18, kr18, nr18⟩, -, Xr18, ⟨Lcr18, hQr18, lr18, yr18, zr18⟩, str18⟩ := Jvm.LawKit.callS Xr17 hx (y := (⟨"com/example/elgin/elgin/broker/RequestHeadSkipEmptyLinesPinLaw", "inEmptyLines", "([BIII)Z"⟩ : MethodName)) hown (mvT hZ (hw _ (List.mem_of_getElem? (i := 17) rfl))) (mvT hZ (hw _ (List.mem_of_getElem? (i := 18) rfl))) (mvT hZ (hw _ (List.mem_of_getElem? (i := 3) rfl))) (mvT hZ (hw _ (List.mem_of_getElem? (i := 19) rfl))) (by decide) (backOf (W := 0) (rm_inl l Z a0 hw [] br1 3 (min a b) r (own_G p0 p1) cl hr11 n0 Zr11 Ar hsz hat (by decide) (by omega) (by omega) (r3 3)) hZ (hw _ (List.mem_of_getElem? (i := 19) rfl)) (hw _ (List.mem_of_getElem? (i := 3) rfl)) (by decide) (by decide)) (g := (mkF m 165 #[.val (.int p0), .val (.long p1), .second, .val (.int p2), .val (.int p3), .val (.ref br1), .val (.int (Int32.ofNat a)), .val (.int (Int32.ofNat b)), .val (.int (Int32.ofNat (min a b))), .val (.int (Int32.ofNat (max a b))), .val (.int (Int32.ofNat r))] [(.int (Int32.ofNat r)), (.int (Int32.ofNat (min a b))), (.int (3 : Int32)), (.ref br1)])) rfl (by rw [hml]; rfl) (argsL := [(.ref br1), (.int (3 : Int32)), (.int (Int32.ofNat (min a b))), (.int (Int32.ofNat r))]) (rest := []) (lenOf pd_law_3 rfl) rfl (by show 2 * 0 + _ ≤ _; exact Nat.le_of_eq rfl) (hb hby at_165) (fun _ _ => ⟨rfl, er17, (by decide : 1 + 0 ≤ _), (by decide : 5 + 0 ≤ _)⟩)
    dsimp only [Pt.U, Pt.locs, Pt.cells, Pt.slots] at Xr18 lr18 yr18 zr18 str18 hQr18
    subst lr18 yr18 zr18
    obtain ⟨rfl, Nr18q, er18⟩ := hQr18
    have Nr18 := Fr.app Nr17 Nr18q
    obtain ⟨_, _, ⟨Tr19, Lr19, kr19, nr19⟩, -, Xr19, ⟨Lcr19, hQr19, lr19, yr19, zr19⟩, str19⟩ := Jvm.LawKit.callS Xr18 hx (y := (⟨"com/example/elgin/elgin/broker/RequestHeadSkipEmptyLinesPinLaw", "inEmptyLines", "([BIII)Z"⟩ : MethodName)) hown (mvT hZ (hw _ (List.mem_of_getElem? (i := 17) rfl))) (mvT hZ (hw _ (List.mem_of_getElem? (i := 18) rfl))) (mvT hZ (hw _ (List.mem_of_getElem? (i := 3) rfl))) (mvT hZ (hw _ (List.mem_of_getElem? (i := 19) rfl))) (by decide) (backOf (W := 0) (rm_inl l Z a0 hw [] br1 4 (min a b) r (own_G p0 p1) cl hr11 n0 Zr11 Ar hsz hat (by decide) (by omega) (by omega) (r3 4)) hZ (hw _ (List.mem_of_getElem? (i := 19) rfl)) (hw _ (List.mem_of_getElem? (i := 3) rfl)) (by decide) (by decide)) (g := (mkF m 178 #[.val (.int p0), .val (.long p1), .second, .val (.int p2), .val (.int p3), .val (.ref br1), .val (.int (Int32.ofNat a)), .val (.int (Int32.ofNat b)), .val (.int (Int32.ofNat (min a b))), .val (.int (Int32.ofNat (max a b))), .val (.int (Int32.ofNat r))] [(.int (Int32.ofNat r)), (.int (Int32.ofNat (min a b))), (.int (4 : Int32)), (.ref br1)])) rfl (by rw [hml]; rfl) (argsL := [(.ref br1), (.int (4 : Int32)), (.int (Int32.ofNat (min a b))), (.int (Int32.ofNat r))]) (rest := []) (lenOf pd_law_3 rfl) rfl (by show 2 * 0 + _ ≤ _; exact Nat.le_of_eq rfl) (hb hby at_178) (fun _ _ => ⟨rfl, er18, (by decide : 1 + 0 ≤ _), (by decide : 5 + 0 ≤ _)⟩)
    dsimp only [Pt.U, Pt.locs, Pt.cells, Pt.slots] at Xr19 lr19 yr19 zr19 str19 hQr19
    subst lr19 yr19 zr19
    obtain ⟨rfl, Nr19q, er19⟩ := hQr19
    have Nr19 := Fr.app Nr18 Nr19q
    obtain ⟨fs, hr, hrun, hended, hW, hsame⟩ := Xr19.leave (v := some (.int (1 : Int32))) (fun h => by rw [Bd.returns] at h; cases h)
    refine ⟨_, _, pre0 _ ?_, hrun, hended, _, _, rfl, ?_, ⟨_, rfl⟩, hW, hsame.mono (by decide) (by decide)⟩
    · show Steps p.tables e below (s₁.setTop (mkF m 0 #[.val (.int p0), .val (.long p1), .second, .val (.int p2), .val (.int p3), .unset, .unset, .unset, .unset, .unset, .unset] [])) _
      refine XS.iconst X0.here hx rfl (hb hby at_0) ?_
      show Steps p.tables e below (s₁.setTop (mkF m 1 #[.val (.int p0), .val (.long p1), .second, .val (.int p2), .val (.int p3), .unset, .unset, .unset, .unset, .unset, .unset] [(.int (5 : Int32))])) _
      refine str1 _ ?_
      show Steps p.tables e below (Tr1.setTop (mkF m 3 #[.val (.int p0), .val (.long p1), .second, .val (.int p2), .val (.int p3), .unset, .unset, .unset, .unset, .unset, .unset] [(.ref br1)])) _
      refine XS.astore Xr1.here hx rfl (hb hby at_3) rfl rfl (l' := #[.val (.int p0), .val (.long p1), .second, .val (.int p2), .val (.int p3), .val (.ref br1), .unset, .unset, .unset, .unset, .unset]) rfl ?_
      show Steps p.tables e below (Tr1.setTop (mkF m 5 #[.val (.int p0), .val (.long p1), .second, .val (.int p2), .val (.int p3), .val (.ref br1), .unset, .unset, .unset, .unset, .unset] [])) _
      refine XS.aload Xr1.here hx rfl (hb hby at_5) rfl rfl ?_
      show Steps p.tables e below (Tr1.setTop (mkF m 7 #[.val (.int p0), .val (.long p1), .second, .val (.int p2), .val (.int p3), .val (.ref br1), .unset, .unset, .unset, .unset, .unset] [(.ref br1)])) _
      refine XS.iconst Xr1.here hx rfl (hb hby at_7) ?_
      show Steps p.tables e below (Tr1.setTop (mkF m 8 #[.val (.int p0), .val (.long p1), .second, .val (.int p2), .val (.int p3), .val (.ref br1), .unset, .unset, .unset, .unset, .unset] [(.int (0 : Int32)), (.ref br1)])) _
      refine XS.iloadN Xr1.here hx rfl (hb hby at_8) rfl ?_
      show Steps p.tables e below (Tr1.setTop (mkF m 9 #[.val (.int p0), .val (.long p1), .second, .val (.int p2), .val (.int p3), .val (.ref br1), .unset, .unset, .unset, .unset, .unset] [(.int p0), (.int (0 : Int32)), (.ref br1)])) _
      refine XS.lloadN Xr1.here hx rfl (hb hby at_9) rfl ?_
      show Steps p.tables e below (Tr1.setTop (mkF m 10 #[.val (.int p0), .val (.long p1), .second, .val (.int p2), .val (.int p3), .val (.ref br1), .unset, .unset, .unset, .unset, .unset] [(.long p1), (.int p0), (.int (0 : Int32)), (.ref br1)])) _
      refine XS.iconst Xr1.here hx rfl (hb hby at_10) ?_
      show Steps p.tables e below (Tr1.setTop (mkF m 11 #[.val (.int p0), .val (.long p1), .second, .val (.int p2), .val (.int p3), .val (.ref br1), .unset, .unset, .unset, .unset, .unset] [(.int (0 : Int32)), (.long p1), (.int p0), (.int (0 : Int32)), (.ref br1)])) _
      refine str2 _ ?_
      show Steps p.tables e below (Tr2.setTop (mkF m 14 #[.val (.int p0), .val (.long p1), .second, .val (.int p2), .val (.int p3), .val (.ref br1), .unset, .unset, .unset, .unset, .unset] [(.int (f_pick p0 p1 (0 : Int32))), (.int (0 : Int32)), (.ref br1)])) _
      refine str3 _ ?_
      show Steps p.tables e below (Tr3.setTop (mkF m 15 #[.val (.int p0), .val (.long p1), .second, .val (.int p2), .val (.int p3), .val (.ref br1), .unset, .unset, .unset, .unset, .unset] [])) _
      refine XS.aload Xr3.here hx rfl (hb hby at_15) rfl rfl ?_
      show Steps p.tables e below (Tr3.setTop (mkF m 17 #[.val (.int p0), .val (.long p1), .second, .val (.int p2), .val (.int p3), .val (.ref br1), .unset, .unset, .unset, .unset, .unset] [(.ref br1)])) _
      refine XS.iconst Xr3.here hx rfl (hb hby at_17) ?_
      show Steps p.tables e below (Tr3.setTop (mkF m 18 #[.val (.int p0), .val (.long p1), .second, .val (.int p2), .val (.int p3), .val (.ref br1), .unset, .unset, .unset, .unset, .unset] [(.int (1 : Int32)), (.ref br1)])) _
      refine XS.iloadN Xr3.here hx rfl (hb hby at_18) rfl ?_
      show Steps p.tables e below (Tr3.setTop (mkF m 19 #[.val (.int p0), .val (.long p1), .second, .val (.int p2), .val (.int p3), .val (.ref br1), .unset, .unset, .unset, .unset, .unset] [(.int p0), (.int (1 : Int32)), (.ref br1)])) _
      refine XS.lloadN Xr3.here hx rfl (hb hby at_19) rfl ?_
      show Steps p.tables e below (Tr3.setTop (mkF m 20 #[.val (.int p0), .val (.long p1), .second, .val (.int p2), .val (.int p3), .val (.ref br1), .unset, .unset, .unset, .unset, .unset] [(.long p1), (.int p0), (.int (1 : Int32)), (.ref br1)])) _
      refine XS.iconst Xr3.here hx rfl (hb hby at_20) ?_
      show Steps p.tables e below (Tr3.setTop (mkF m 21 #[.val (.int p0), .val (.long p1), .second, .val (.int p2), .val (.int p3), .val (.ref br1), .unset, .unset, .unset, .unset, .unset] [(.int (1 : Int32)), (.long p1), (.int p0), (.int (1 : Int32)), (.ref br1)])) _
      refine str4 _ ?_
      show Steps p.tables e below (Tr4.setTop (mkF m 24 #[.val (.int p0), .val (.long p1), .second, .val (.int p2), .val (.int p3), .val (.ref br1), .unset, .unset, .unset, .unset, .unset] [(.int (f_pick p0 p1 (1 : Int32))), (.int (1 : Int32)), (.ref br1)])) _
      refine str5 _ ?_
      show Steps p.tables e below (Tr5.setTop (mkF m 25 #[.val (.int p0), .val (.long p1), .second, .val (.int p2), .val (.int p3), .val (.ref br1), .unset, .unset, .unset, .unset, .unset] [])) _
      refine XS.aload Xr5.here hx rfl (hb hby at_25) rfl rfl ?_
      show Steps p.tables e below (Tr5.setTop (mkF m 27 #[.val (.int p0), .val (.long p1), .second, .val (.int p2), .val (.int p3), .val (.ref br1), .unset, .unset, .unset, .unset, .unset] [(.ref br1)])) _
      refine XS.iconst Xr5.here hx rfl (hb hby at_27) ?_
      show Steps p.tables e below (Tr5.setTop (mkF m 28 #[.val (.int p0), .val (.long p1), .second, .val (.int p2), .val (.int p3), .val (.ref br1), .unset, .unset, .unset, .unset, .unset] [(.int (2 : Int32)), (.ref br1)])) _
      refine XS.iloadN Xr5.here hx rfl (hb hby at_28) rfl ?_
      show Steps p.tables e below (Tr5.setTop (mkF m 29 #[.val (.int p0), .val (.long p1), .second, .val (.int p2), .val (.int p3), .val (.ref br1), .unset, .unset, .unset, .unset, .unset] [(.int p0), (.int (2 : Int32)), (.ref br1)])) _
      refine XS.lloadN Xr5.here hx rfl (hb hby at_29) rfl ?_
      show Steps p.tables e below (Tr5.setTop (mkF m 30 #[.val (.int p0), .val (.long p1), .second, .val (.int p2), .val (.int p3), .val (.ref br1), .unset, .unset, .unset, .unset, .unset] [(.long p1), (.int p0), (.int (2 : Int32)), (.ref br1)])) _
      refine XS.iconst Xr5.here hx rfl (hb hby at_30) ?_
      show Steps p.tables e below (Tr5.setTop (mkF m 31 #[.val (.int p0), .val (.long p1), .second, .val (.int p2), .val (.int p3), .val (.ref br1), .unset, .unset, .unset, .unset, .unset] [(.int (2 : Int32)), (.long p1), (.int p0), (.int (2 : Int32)), (.ref br1)])) _
      refine str6 _ ?_
      show Steps p.tables e below (Tr6.setTop (mkF m 34 #[.val (.int p0), .val (.long p1), .second, .val (.int p2), .val (.int p3), .val (.ref br1), .unset, .unset, .unset, .unset, .unset] [(.int (f_pick p0 p1 (2 : Int32))), (.int (2 : Int32)), (.ref br1)])) _
      refine str7 _ ?_
      show Steps p.tables e below (Tr7.setTop (mkF m 35 #[.val (.int p0), .val (.long p1), .second, .val (.int p2), .val (.int p3), .val (.ref br1), .unset, .unset, .unset, .unset, .unset] [])) _
      refine XS.aload Xr7.here hx rfl (hb hby at_35) rfl rfl ?_
      show Steps p.tables e below (Tr7.setTop (mkF m 37 #[.val (.int p0), .val (.long p1), .second, .val (.int p2), .val (.int p3), .val (.ref br1), .unset, .unset, .unset, .unset, .unset] [(.ref br1)])) _
      refine XS.iconst Xr7.here hx rfl (hb hby at_37) ?_
      show Steps p.tables e below (Tr7.setTop (mkF m 38 #[.val (.int p0), .val (.long p1), .second, .val (.int p2), .val (.int p3), .val (.ref br1), .unset, .unset, .unset, .unset, .unset] [(.int (3 : Int32)), (.ref br1)])) _
      refine XS.iloadN Xr7.here hx rfl (hb hby at_38) rfl ?_
      show Steps p.tables e below (Tr7.setTop (mkF m 39 #[.val (.int p0), .val (.long p1), .second, .val (.int p2), .val (.int p3), .val (.ref br1), .unset, .unset, .unset, .unset, .unset] [(.int p0), (.int (3 : Int32)), (.ref br1)])) _
      refine XS.lloadN Xr7.here hx rfl (hb hby at_39) rfl ?_
      show Steps p.tables e below (Tr7.setTop (mkF m 40 #[.val (.int p0), .val (.long p1), .second, .val (.int p2), .val (.int p3), .val (.ref br1), .unset, .unset, .unset, .unset, .unset] [(.long p1), (.int p0), (.int (3 : Int32)), (.ref br1)])) _
      refine XS.iconst Xr7.here hx rfl (hb hby at_40) ?_
      show Steps p.tables e below (Tr7.setTop (mkF m 41 #[.val (.int p0), .val (.long p1), .second, .val (.int p2), .val (.int p3), .val (.ref br1), .unset, .unset, .unset, .unset, .unset] [(.int (3 : Int32)), (.long p1), (.int p0), (.int (3 : Int32)), (.ref br1)])) _
      refine str8 _ ?_
      show Steps p.tables e below (Tr8.setTop (mkF m 44 #[.val (.int p0), .val (.long p1), .second, .val (.int p2), .val (.int p3), .val (.ref br1), .unset, .unset, .unset, .unset, .unset] [(.int (f_pick p0 p1 (3 : Int32))), (.int (3 : Int32)), (.ref br1)])) _
      refine str9 _ ?_
      show Steps p.tables e below (Tr9.setTop (mkF m 45 #[.val (.int p0), .val (.long p1), .second, .val (.int p2), .val (.int p3), .val (.ref br1), .unset, .unset, .unset, .unset, .unset] [])) _
      refine XS.aload Xr9.here hx rfl (hb hby at_45) rfl rfl ?_
      show Steps p.tables e below (Tr9.setTop (mkF m 47 #[.val (.int p0), .val (.long p1), .second, .val (.int p2), .val (.int p3), .val (.ref br1), .unset, .unset, .unset, .unset, .unset] [(.ref br1)])) _
      refine XS.iconst Xr9.here hx rfl (hb hby at_47) ?_
      show Steps p.tables e below (Tr9.setTop (mkF m 48 #[.val (.int p0), .val (.long p1), .second, .val (.int p2), .val (.int p3), .val (.ref br1), .unset, .unset, .unset, .unset, .unset] [(.int (4 : Int32)), (.ref br1)])) _
      refine XS.iloadN Xr9.here hx rfl (hb hby at_48) rfl ?_
      show Steps p.tables e below (Tr9.setTop (mkF m 49 #[.val (.int p0), .val (.long p1), .second, .val (.int p2), .val (.int p3), .val (.ref br1), .unset, .unset, .unset, .unset, .unset] [(.int p0), (.int (4 : Int32)), (.ref br1)])) _
      refine XS.lloadN Xr9.here hx rfl (hb hby at_49) rfl ?_
      show Steps p.tables e below (Tr9.setTop (mkF m 50 #[.val (.int p0), .val (.long p1), .second, .val (.int p2), .val (.int p3), .val (.ref br1), .unset, .unset, .unset, .unset, .unset] [(.long p1), (.int p0), (.int (4 : Int32)), (.ref br1)])) _
      refine XS.iconst Xr9.here hx rfl (hb hby at_50) ?_
      show Steps p.tables e below (Tr9.setTop (mkF m 51 #[.val (.int p0), .val (.long p1), .second, .val (.int p2), .val (.int p3), .val (.ref br1), .unset, .unset, .unset, .unset, .unset] [(.int (4 : Int32)), (.long p1), (.int p0), (.int (4 : Int32)), (.ref br1)])) _
      refine str10 _ ?_
      show Steps p.tables e below (Tr10.setTop (mkF m 54 #[.val (.int p0), .val (.long p1), .second, .val (.int p2), .val (.int p3), .val (.ref br1), .unset, .unset, .unset, .unset, .unset] [(.int (f_pick p0 p1 (4 : Int32))), (.int (4 : Int32)), (.ref br1)])) _
      refine str11 _ ?_
      show Steps p.tables e below (Tr11.setTop (mkF m 55 #[.val (.int p0), .val (.long p1), .second, .val (.int p2), .val (.int p3), .val (.ref br1), .unset, .unset, .unset, .unset, .unset] [])) _
      refine XS.iloadN Xr11.here hx rfl (hb hby at_55) rfl ?_
      show Steps p.tables e below (Tr11.setTop (mkF m 56 #[.val (.int p0), .val (.long p1), .second, .val (.int p2), .val (.int p3), .val (.ref br1), .unset, .unset, .unset, .unset, .unset] [(.int p2)])) _
      refine Xr11.ldcInt hx hown (mvT hZ (hw _ (List.mem_of_getElem? (i := 5) rfl))) (g := (mkF m 56 #[.val (.int p0), .val (.long p1), .second, .val (.int p2), .val (.int p3), .val (.ref br1), .unset, .unset, .unset, .unset, .unset] [(.int p2)])) rfl (hb hby at_56) _ ?_
      show Steps p.tables e below (Tr11.setTop (mkF m 58 #[.val (.int p0), .val (.long p1), .second, .val (.int p2), .val (.int p3), .val (.ref br1), .unset, .unset, .unset, .unset, .unset] [(.int (2147483647 : Int32)), (.int p2)])) _
      refine XS.iand Xr11.here hx rfl (hb hby at_58) rfl ?_
      show Steps p.tables e below (Tr11.setTop (mkF m 59 #[.val (.int p0), .val (.long p1), .second, .val (.int p2), .val (.int p3), .val (.ref br1), .unset, .unset, .unset, .unset, .unset] [(.int (p2 &&& (2147483647 : Int32)))])) _
      refine XS.bipush Xr11.here hx rfl (hb hby at_59) ?_
      show Steps p.tables e below (Tr11.setTop (mkF m 61 #[.val (.int p0), .val (.long p1), .second, .val (.int p2), .val (.int p3), .val (.ref br1), .unset, .unset, .unset, .unset, .unset] [(.int (6 : Int32)), (.int (p2 &&& (2147483647 : Int32)))])) _
      refine Jvm.RoadKit.iremM Xr11 hx rfl (hb hby at_61) rfl (by decide) ?_
      rw [ea]
      show Steps p.tables e below (Tr11.setTop (mkF m 62 #[.val (.int p0), .val (.long p1), .second, .val (.int p2), .val (.int p3), .val (.ref br1), .unset, .unset, .unset, .unset, .unset] [(.int (Int32.ofNat a))])) _
      refine XS.istore Xr11.here hx rfl (hb hby at_62) rfl (l' := #[.val (.int p0), .val (.long p1), .second, .val (.int p2), .val (.int p3), .val (.ref br1), .val (.int (Int32.ofNat a)), .unset, .unset, .unset, .unset]) rfl ?_
      show Steps p.tables e below (Tr11.setTop (mkF m 64 #[.val (.int p0), .val (.long p1), .second, .val (.int p2), .val (.int p3), .val (.ref br1), .val (.int (Int32.ofNat a)), .unset, .unset, .unset, .unset] [])) _
      refine XS.iload Xr11.here hx rfl (hb hby at_64) rfl ?_
      show Steps p.tables e below (Tr11.setTop (mkF m 66 #[.val (.int p0), .val (.long p1), .second, .val (.int p2), .val (.int p3), .val (.ref br1), .val (.int (Int32.ofNat a)), .unset, .unset, .unset, .unset] [(.int p3)])) _
      refine Xr11.ldcInt hx hown (mvT hZ (hw _ (List.mem_of_getElem? (i := 5) rfl))) (g := (mkF m 66 #[.val (.int p0), .val (.long p1), .second, .val (.int p2), .val (.int p3), .val (.ref br1), .val (.int (Int32.ofNat a)), .unset, .unset, .unset, .unset] [(.int p3)])) rfl (hb hby at_66) _ ?_
      show Steps p.tables e below (Tr11.setTop (mkF m 68 #[.val (.int p0), .val (.long p1), .second, .val (.int p2), .val (.int p3), .val (.ref br1), .val (.int (Int32.ofNat a)), .unset, .unset, .unset, .unset] [(.int (2147483647 : Int32)), (.int p3)])) _
      refine XS.iand Xr11.here hx rfl (hb hby at_68) rfl ?_
      show Steps p.tables e below (Tr11.setTop (mkF m 69 #[.val (.int p0), .val (.long p1), .second, .val (.int p2), .val (.int p3), .val (.ref br1), .val (.int (Int32.ofNat a)), .unset, .unset, .unset, .unset] [(.int (p3 &&& (2147483647 : Int32)))])) _
      refine XS.bipush Xr11.here hx rfl (hb hby at_69) ?_
      show Steps p.tables e below (Tr11.setTop (mkF m 71 #[.val (.int p0), .val (.long p1), .second, .val (.int p2), .val (.int p3), .val (.ref br1), .val (.int (Int32.ofNat a)), .unset, .unset, .unset, .unset] [(.int (6 : Int32)), (.int (p3 &&& (2147483647 : Int32)))])) _
      refine Jvm.RoadKit.iremM Xr11 hx rfl (hb hby at_71) rfl (by decide) ?_
      rw [eb]
      show Steps p.tables e below (Tr11.setTop (mkF m 72 #[.val (.int p0), .val (.long p1), .second, .val (.int p2), .val (.int p3), .val (.ref br1), .val (.int (Int32.ofNat a)), .unset, .unset, .unset, .unset] [(.int (Int32.ofNat b))])) _
      refine XS.istore Xr11.here hx rfl (hb hby at_72) rfl (l' := #[.val (.int p0), .val (.long p1), .second, .val (.int p2), .val (.int p3), .val (.ref br1), .val (.int (Int32.ofNat a)), .val (.int (Int32.ofNat b)), .unset, .unset, .unset]) rfl ?_
      show Steps p.tables e below (Tr11.setTop (mkF m 74 #[.val (.int p0), .val (.long p1), .second, .val (.int p2), .val (.int p3), .val (.ref br1), .val (.int (Int32.ofNat a)), .val (.int (Int32.ofNat b)), .unset, .unset, .unset] [])) _
      refine XS.iload Xr11.here hx rfl (hb hby at_74) rfl ?_
      show Steps p.tables e below (Tr11.setTop (mkF m 76 #[.val (.int p0), .val (.long p1), .second, .val (.int p2), .val (.int p3), .val (.ref br1), .val (.int (Int32.ofNat a)), .val (.int (Int32.ofNat b)), .unset, .unset, .unset] [(.int (Int32.ofNat a))])) _
      refine XS.iload Xr11.here hx rfl (hb hby at_76) rfl ?_
      show Steps p.tables e below (Tr11.setTop (mkF m 78 #[.val (.int p0), .val (.long p1), .second, .val (.int p2), .val (.int p3), .val (.ref br1), .val (.int (Int32.ofNat a)), .val (.int (Int32.ofNat b)), .unset, .unset, .unset] [(.int (Int32.ofNat b)), (.int (Int32.ofNat a))])) _
      refine str12 _ ?_
      rw [own_min ha5 hb5]
      show Steps p.tables e below (Tr12.setTop (mkF m 81 #[.val (.int p0), .val (.long p1), .second, .val (.int p2), .val (.int p3), .val (.ref br1), .val (.int (Int32.ofNat a)), .val (.int (Int32.ofNat b)), .unset, .unset, .unset] [(.int (Int32.ofNat (min a b)))])) _
      refine XS.istore Xr12.here hx rfl (hb hby at_81) rfl (l' := #[.val (.int p0), .val (.long p1), .second, .val (.int p2), .val (.int p3), .val (.ref br1), .val (.int (Int32.ofNat a)), .val (.int (Int32.ofNat b)), .val (.int (Int32.ofNat (min a b))), .unset, .unset]) rfl ?_
      show Steps p.tables e below (Tr12.setTop (mkF m 83 #[.val (.int p0), .val (.long p1), .second, .val (.int p2), .val (.int p3), .val (.ref br1), .val (.int (Int32.ofNat a)), .val (.int (Int32.ofNat b)), .val (.int (Int32.ofNat (min a b))), .unset, .unset] [])) _
      refine XS.iload Xr12.here hx rfl (hb hby at_83) rfl ?_
      show Steps p.tables e below (Tr12.setTop (mkF m 85 #[.val (.int p0), .val (.long p1), .second, .val (.int p2), .val (.int p3), .val (.ref br1), .val (.int (Int32.ofNat a)), .val (.int (Int32.ofNat b)), .val (.int (Int32.ofNat (min a b))), .unset, .unset] [(.int (Int32.ofNat a))])) _
      refine XS.iload Xr12.here hx rfl (hb hby at_85) rfl ?_
      show Steps p.tables e below (Tr12.setTop (mkF m 87 #[.val (.int p0), .val (.long p1), .second, .val (.int p2), .val (.int p3), .val (.ref br1), .val (.int (Int32.ofNat a)), .val (.int (Int32.ofNat b)), .val (.int (Int32.ofNat (min a b))), .unset, .unset] [(.int (Int32.ofNat b)), (.int (Int32.ofNat a))])) _
      refine str13 _ ?_
      rw [own_max ha5 hb5]
      show Steps p.tables e below (Tr13.setTop (mkF m 90 #[.val (.int p0), .val (.long p1), .second, .val (.int p2), .val (.int p3), .val (.ref br1), .val (.int (Int32.ofNat a)), .val (.int (Int32.ofNat b)), .val (.int (Int32.ofNat (min a b))), .unset, .unset] [(.int (Int32.ofNat (max a b)))])) _
      refine XS.istore Xr13.here hx rfl (hb hby at_90) rfl (l' := #[.val (.int p0), .val (.long p1), .second, .val (.int p2), .val (.int p3), .val (.ref br1), .val (.int (Int32.ofNat a)), .val (.int (Int32.ofNat b)), .val (.int (Int32.ofNat (min a b))), .val (.int (Int32.ofNat (max a b))), .unset]) rfl ?_
      show Steps p.tables e below (Tr13.setTop (mkF m 92 #[.val (.int p0), .val (.long p1), .second, .val (.int p2), .val (.int p3), .val (.ref br1), .val (.int (Int32.ofNat a)), .val (.int (Int32.ofNat b)), .val (.int (Int32.ofNat (min a b))), .val (.int (Int32.ofNat (max a b))), .unset] [])) _
      refine XS.aload Xr13.here hx rfl (hb hby at_92) rfl rfl ?_
      show Steps p.tables e below (Tr13.setTop (mkF m 94 #[.val (.int p0), .val (.long p1), .second, .val (.int p2), .val (.int p3), .val (.ref br1), .val (.int (Int32.ofNat a)), .val (.int (Int32.ofNat b)), .val (.int (Int32.ofNat (min a b))), .val (.int (Int32.ofNat (max a b))), .unset] [(.ref br1)])) _
      refine XS.iload Xr13.here hx rfl (hb hby at_94) rfl ?_
      show Steps p.tables e below (Tr13.setTop (mkF m 96 #[.val (.int p0), .val (.long p1), .second, .val (.int p2), .val (.int p3), .val (.ref br1), .val (.int (Int32.ofNat a)), .val (.int (Int32.ofNat b)), .val (.int (Int32.ofNat (min a b))), .val (.int (Int32.ofNat (max a b))), .unset] [(.int (Int32.ofNat (min a b))), (.ref br1)])) _
      refine XS.iload Xr13.here hx rfl (hb hby at_96) rfl ?_
      show Steps p.tables e below (Tr13.setTop (mkF m 98 #[.val (.int p0), .val (.long p1), .second, .val (.int p2), .val (.int p3), .val (.ref br1), .val (.int (Int32.ofNat a)), .val (.int (Int32.ofNat b)), .val (.int (Int32.ofNat (min a b))), .val (.int (Int32.ofNat (max a b))), .unset] [(.int (Int32.ofNat (max a b))), (.int (Int32.ofNat (min a b))), (.ref br1)])) _
      refine str14 _ ?_
      show Steps p.tables e below (Tr14.setTop (mkF m 101 #[.val (.int p0), .val (.long p1), .second, .val (.int p2), .val (.int p3), .val (.ref br1), .val (.int (Int32.ofNat a)), .val (.int (Int32.ofNat b)), .val (.int (Int32.ofNat (min a b))), .val (.int (Int32.ofNat (max a b))), .unset] [(.int (Int32.ofNat r))])) _
      refine XS.istore Xr14.here hx rfl (hb hby at_101) rfl (l' := #[.val (.int p0), .val (.long p1), .second, .val (.int p2), .val (.int p3), .val (.ref br1), .val (.int (Int32.ofNat a)), .val (.int (Int32.ofNat b)), .val (.int (Int32.ofNat (min a b))), .val (.int (Int32.ofNat (max a b))), .val (.int (Int32.ofNat r))]) rfl ?_
      show Steps p.tables e below (Tr14.setTop (mkF m 103 #[.val (.int p0), .val (.long p1), .second, .val (.int p2), .val (.int p3), .val (.ref br1), .val (.int (Int32.ofNat a)), .val (.int (Int32.ofNat b)), .val (.int (Int32.ofNat (min a b))), .val (.int (Int32.ofNat (max a b))), .val (.int (Int32.ofNat r))] [])) _
      refine XS.iload Xr14.here hx rfl (hb hby at_103) rfl ?_
      show Steps p.tables e below (Tr14.setTop (mkF m 105 #[.val (.int p0), .val (.long p1), .second, .val (.int p2), .val (.int p3), .val (.ref br1), .val (.int (Int32.ofNat a)), .val (.int (Int32.ofNat b)), .val (.int (Int32.ofNat (min a b))), .val (.int (Int32.ofNat (max a b))), .val (.int (Int32.ofNat r))] [(.int (Int32.ofNat r))])) _
      refine XS.iload Xr14.here hx rfl (hb hby at_105) rfl ?_
      show Steps p.tables e below (Tr14.setTop (mkF m 107 #[.val (.int p0), .val (.long p1), .second, .val (.int p2), .val (.int p3), .val (.ref br1), .val (.int (Int32.ofNat a)), .val (.int (Int32.ofNat b)), .val (.int (Int32.ofNat (min a b))), .val (.int (Int32.ofNat (max a b))), .val (.int (Int32.ofNat r))] [(.int (Int32.ofNat (min a b))), (.int (Int32.ofNat r))])) _
      refine XS.icmpNo Xr14.here hx rfl (hb hby at_107) rfl (flt (fun q => absurd ((own_lt (by omega) (by omega)).mp q) (by omega))).1 ?_
      show Steps p.tables e below (Tr14.setTop (mkF m 110 #[.val (.int p0), .val (.long p1), .second, .val (.int p2), .val (.int p3), .val (.ref br1), .val (.int (Int32.ofNat a)), .val (.int (Int32.ofNat b)), .val (.int (Int32.ofNat (min a b))), .val (.int (Int32.ofNat (max a b))), .val (.int (Int32.ofNat r))] [])) _
      refine XS.iload Xr14.here hx rfl (hb hby at_110) rfl ?_
      show Steps p.tables e below (Tr14.setTop (mkF m 112 #[.val (.int p0), .val (.long p1), .second, .val (.int p2), .val (.int p3), .val (.ref br1), .val (.int (Int32.ofNat a)), .val (.int (Int32.ofNat b)), .val (.int (Int32.ofNat (min a b))), .val (.int (Int32.ofNat (max a b))), .val (.int (Int32.ofNat r))] [(.int (Int32.ofNat r))])) _
      refine XS.iload Xr14.here hx rfl (hb hby at_112) rfl ?_
      show Steps p.tables e below (Tr14.setTop (mkF m 114 #[.val (.int p0), .val (.long p1), .second, .val (.int p2), .val (.int p3), .val (.ref br1), .val (.int (Int32.ofNat a)), .val (.int (Int32.ofNat b)), .val (.int (Int32.ofNat (min a b))), .val (.int (Int32.ofNat (max a b))), .val (.int (Int32.ofNat r))] [(.int (Int32.ofNat (max a b))), (.int (Int32.ofNat r))])) _
      refine XS.icmpYes Xr14.here hx rfl (pc0 := 114) (pc' := 119) rfl (hb hby at_114) rfl (flt (fun q => absurd ((own_lt (by omega) (by omega)).mp q) (by omega))).2.2.2 (by decide) (by decide) ?_
      show Steps p.tables e below (Tr14.setTop (mkF m 119 #[.val (.int p0), .val (.long p1), .second, .val (.int p2), .val (.int p3), .val (.ref br1), .val (.int (Int32.ofNat a)), .val (.int (Int32.ofNat b)), .val (.int (Int32.ofNat (min a b))), .val (.int (Int32.ofNat (max a b))), .val (.int (Int32.ofNat r))] [])) _
      refine XS.aload Xr14.here hx rfl (hb hby at_119) rfl rfl ?_
      show Steps p.tables e below (Tr14.setTop (mkF m 121 #[.val (.int p0), .val (.long p1), .second, .val (.int p2), .val (.int p3), .val (.ref br1), .val (.int (Int32.ofNat a)), .val (.int (Int32.ofNat b)), .val (.int (Int32.ofNat (min a b))), .val (.int (Int32.ofNat (max a b))), .val (.int (Int32.ofNat r))] [(.ref br1)])) _
      refine XS.iconst Xr14.here hx rfl (hb hby at_121) ?_
      show Steps p.tables e below (Tr14.setTop (mkF m 122 #[.val (.int p0), .val (.long p1), .second, .val (.int p2), .val (.int p3), .val (.ref br1), .val (.int (Int32.ofNat a)), .val (.int (Int32.ofNat b)), .val (.int (Int32.ofNat (min a b))), .val (.int (Int32.ofNat (max a b))), .val (.int (Int32.ofNat r))] [(.int (0 : Int32)), (.ref br1)])) _
      refine XS.iload Xr14.here hx rfl (hb hby at_122) rfl ?_
      show Steps p.tables e below (Tr14.setTop (mkF m 124 #[.val (.int p0), .val (.long p1), .second, .val (.int p2), .val (.int p3), .val (.ref br1), .val (.int (Int32.ofNat a)), .val (.int (Int32.ofNat b)), .val (.int (Int32.ofNat (min a b))), .val (.int (Int32.ofNat (max a b))), .val (.int (Int32.ofNat r))] [(.int (Int32.ofNat (min a b))), (.int (0 : Int32)), (.ref br1)])) _
      refine XS.iload Xr14.here hx rfl (hb hby at_124) rfl ?_
      show Steps p.tables e below (Tr14.setTop (mkF m 126 #[.val (.int p0), .val (.long p1), .second, .val (.int p2), .val (.int p3), .val (.ref br1), .val (.int (Int32.ofNat a)), .val (.int (Int32.ofNat b)), .val (.int (Int32.ofNat (min a b))), .val (.int (Int32.ofNat (max a b))), .val (.int (Int32.ofNat r))] [(.int (Int32.ofNat r)), (.int (Int32.ofNat (min a b))), (.int (0 : Int32)), (.ref br1)])) _
      refine str15 _ ?_
      show Steps p.tables e below (Tr15.setTop (mkF m 129 #[.val (.int p0), .val (.long p1), .second, .val (.int p2), .val (.int p3), .val (.ref br1), .val (.int (Int32.ofNat a)), .val (.int (Int32.ofNat b)), .val (.int (Int32.ofNat (min a b))), .val (.int (Int32.ofNat (max a b))), .val (.int (Int32.ofNat r))] [(.int (1 : Int32))])) _
      refine XS.ifNo Xr15.here hx rfl (hb hby at_129) rfl ((if0 _ _).trans (feq (by decide : ¬ ((1 : Int32) = (0 : Int32)))).1) ?_
      show Steps p.tables e below (Tr15.setTop (mkF m 132 #[.val (.int p0), .val (.long p1), .second, .val (.int p2), .val (.int p3), .val (.ref br1), .val (.int (Int32.ofNat a)), .val (.int (Int32.ofNat b)), .val (.int (Int32.ofNat (min a b))), .val (.int (Int32.ofNat (max a b))), .val (.int (Int32.ofNat r))] [])) _
      refine XS.aload Xr15.here hx rfl (hb hby at_132) rfl rfl ?_
      show Steps p.tables e below (Tr15.setTop (mkF m 134 #[.val (.int p0), .val (.long p1), .second, .val (.int p2), .val (.int p3), .val (.ref br1), .val (.int (Int32.ofNat a)), .val (.int (Int32.ofNat b)), .val (.int (Int32.ofNat (min a b))), .val (.int (Int32.ofNat (max a b))), .val (.int (Int32.ofNat r))] [(.ref br1)])) _
      refine XS.iconst Xr15.here hx rfl (hb hby at_134) ?_
      show Steps p.tables e below (Tr15.setTop (mkF m 135 #[.val (.int p0), .val (.long p1), .second, .val (.int p2), .val (.int p3), .val (.ref br1), .val (.int (Int32.ofNat a)), .val (.int (Int32.ofNat b)), .val (.int (Int32.ofNat (min a b))), .val (.int (Int32.ofNat (max a b))), .val (.int (Int32.ofNat r))] [(.int (1 : Int32)), (.ref br1)])) _
      refine XS.iload Xr15.here hx rfl (hb hby at_135) rfl ?_
      show Steps p.tables e below (Tr15.setTop (mkF m 137 #[.val (.int p0), .val (.long p1), .second, .val (.int p2), .val (.int p3), .val (.ref br1), .val (.int (Int32.ofNat a)), .val (.int (Int32.ofNat b)), .val (.int (Int32.ofNat (min a b))), .val (.int (Int32.ofNat (max a b))), .val (.int (Int32.ofNat r))] [(.int (Int32.ofNat (min a b))), (.int (1 : Int32)), (.ref br1)])) _
      refine XS.iload Xr15.here hx rfl (hb hby at_137) rfl ?_
      show Steps p.tables e below (Tr15.setTop (mkF m 139 #[.val (.int p0), .val (.long p1), .second, .val (.int p2), .val (.int p3), .val (.ref br1), .val (.int (Int32.ofNat a)), .val (.int (Int32.ofNat b)), .val (.int (Int32.ofNat (min a b))), .val (.int (Int32.ofNat (max a b))), .val (.int (Int32.ofNat r))] [(.int (Int32.ofNat r)), (.int (Int32.ofNat (min a b))), (.int (1 : Int32)), (.ref br1)])) _
      refine str16 _ ?_
      show Steps p.tables e below (Tr16.setTop (mkF m 142 #[.val (.int p0), .val (.long p1), .second, .val (.int p2), .val (.int p3), .val (.ref br1), .val (.int (Int32.ofNat a)), .val (.int (Int32.ofNat b)), .val (.int (Int32.ofNat (min a b))), .val (.int (Int32.ofNat (max a b))), .val (.int (Int32.ofNat r))] [(.int (1 : Int32))])) _
      refine XS.ifNo Xr16.here hx rfl (hb hby at_142) rfl ((if0 _ _).trans (feq (by decide : ¬ ((1 : Int32) = (0 : Int32)))).1) ?_
      show Steps p.tables e below (Tr16.setTop (mkF m 145 #[.val (.int p0), .val (.long p1), .second, .val (.int p2), .val (.int p3), .val (.ref br1), .val (.int (Int32.ofNat a)), .val (.int (Int32.ofNat b)), .val (.int (Int32.ofNat (min a b))), .val (.int (Int32.ofNat (max a b))), .val (.int (Int32.ofNat r))] [])) _
      refine XS.aload Xr16.here hx rfl (hb hby at_145) rfl rfl ?_
      show Steps p.tables e below (Tr16.setTop (mkF m 147 #[.val (.int p0), .val (.long p1), .second, .val (.int p2), .val (.int p3), .val (.ref br1), .val (.int (Int32.ofNat a)), .val (.int (Int32.ofNat b)), .val (.int (Int32.ofNat (min a b))), .val (.int (Int32.ofNat (max a b))), .val (.int (Int32.ofNat r))] [(.ref br1)])) _
      refine XS.iconst Xr16.here hx rfl (hb hby at_147) ?_
      show Steps p.tables e below (Tr16.setTop (mkF m 148 #[.val (.int p0), .val (.long p1), .second, .val (.int p2), .val (.int p3), .val (.ref br1), .val (.int (Int32.ofNat a)), .val (.int (Int32.ofNat b)), .val (.int (Int32.ofNat (min a b))), .val (.int (Int32.ofNat (max a b))), .val (.int (Int32.ofNat r))] [(.int (2 : Int32)), (.ref br1)])) _
      refine XS.iload Xr16.here hx rfl (hb hby at_148) rfl ?_
      show Steps p.tables e below (Tr16.setTop (mkF m 150 #[.val (.int p0), .val (.long p1), .second, .val (.int p2), .val (.int p3), .val (.ref br1), .val (.int (Int32.ofNat a)), .val (.int (Int32.ofNat b)), .val (.int (Int32.ofNat (min a b))), .val (.int (Int32.ofNat (max a b))), .val (.int (Int32.ofNat r))] [(.int (Int32.ofNat (min a b))), (.int (2 : Int32)), (.ref br1)])) _
      refine XS.iload Xr16.here hx rfl (hb hby at_150) rfl ?_
      show Steps p.tables e below (Tr16.setTop (mkF m 152 #[.val (.int p0), .val (.long p1), .second, .val (.int p2), .val (.int p3), .val (.ref br1), .val (.int (Int32.ofNat a)), .val (.int (Int32.ofNat b)), .val (.int (Int32.ofNat (min a b))), .val (.int (Int32.ofNat (max a b))), .val (.int (Int32.ofNat r))] [(.int (Int32.ofNat r)), (.int (Int32.ofNat (min a b))), (.int (2 : Int32)), (.ref br1)])) _
      refine str17 _ ?_
      show Steps p.tables e below (Tr17.setTop (mkF m 155 #[.val (.int p0), .val (.long p1), .second, .val (.int p2), .val (.int p3), .val (.ref br1), .val (.int (Int32.ofNat a)), .val (.int (Int32.ofNat b)), .val (.int (Int32.ofNat (min a b))), .val (.int (Int32.ofNat (max a b))), .val (.int (Int32.ofNat r))] [(.int (1 : Int32))])) _
      refine XS.ifNo Xr17.here hx rfl (hb hby at_155) rfl ((if0 _ _).trans (feq (by decide : ¬ ((1 : Int32) = (0 : Int32)))).1) ?_
      show Steps p.tables e below (Tr17.setTop (mkF m 158 #[.val (.int p0), .val (.long p1), .second, .val (.int p2), .val (.int p3), .val (.ref br1), .val (.int (Int32.ofNat a)), .val (.int (Int32.ofNat b)), .val (.int (Int32.ofNat (min a b))), .val (.int (Int32.ofNat (max a b))), .val (.int (Int32.ofNat r))] [])) _
      refine XS.aload Xr17.here hx rfl (hb hby at_158) rfl rfl ?_
      show Steps p.tables e below (Tr17.setTop (mkF m 160 #[.val (.int p0), .val (.long p1), .second, .val (.int p2), .val (.int p3), .val (.ref br1), .val (.int (Int32.ofNat a)), .val (.int (Int32.ofNat b)), .val (.int (Int32.ofNat (min a b))), .val (.int (Int32.ofNat (max a b))), .val (.int (Int32.ofNat r))] [(.ref br1)])) _
      refine XS.iconst Xr17.here hx rfl (hb hby at_160) ?_
      show Steps p.tables e below (Tr17.setTop (mkF m 161 #[.val (.int p0), .val (.long p1), .second, .val (.int p2), .val (.int p3), .val (.ref br1), .val (.int (Int32.ofNat a)), .val (.int (Int32.ofNat b)), .val (.int (Int32.ofNat (min a b))), .val (.int (Int32.ofNat (max a b))), .val (.int (Int32.ofNat r))] [(.int (3 : Int32)), (.ref br1)])) _
      refine XS.iload Xr17.here hx rfl (hb hby at_161) rfl ?_
      show Steps p.tables e below (Tr17.setTop (mkF m 163 #[.val (.int p0), .val (.long p1), .second, .val (.int p2), .val (.int p3), .val (.ref br1), .val (.int (Int32.ofNat a)), .val (.int (Int32.ofNat b)), .val (.int (Int32.ofNat (min a b))), .val (.int (Int32.ofNat (max a b))), .val (.int (Int32.ofNat r))] [(.int (Int32.ofNat (min a b))), (.int (3 : Int32)), (.ref br1)])) _
      refine XS.iload Xr17.here hx rfl (hb hby at_163) rfl ?_
      show Steps p.tables e below (Tr17.setTop (mkF m 165 #[.val (.int p0), .val (.long p1), .second, .val (.int p2), .val (.int p3), .val (.ref br1), .val (.int (Int32.ofNat a)), .val (.int (Int32.ofNat b)), .val (.int (Int32.ofNat (min a b))), .val (.int (Int32.ofNat (max a b))), .val (.int (Int32.ofNat r))] [(.int (Int32.ofNat r)), (.int (Int32.ofNat (min a b))), (.int (3 : Int32)), (.ref br1)])) _
      refine str18 _ ?_
      show Steps p.tables e below (Tr18.setTop (mkF m 168 #[.val (.int p0), .val (.long p1), .second, .val (.int p2), .val (.int p3), .val (.ref br1), .val (.int (Int32.ofNat a)), .val (.int (Int32.ofNat b)), .val (.int (Int32.ofNat (min a b))), .val (.int (Int32.ofNat (max a b))), .val (.int (Int32.ofNat r))] [(.int (1 : Int32))])) _
      refine XS.ifNo Xr18.here hx rfl (hb hby at_168) rfl ((if0 _ _).trans (feq (by decide : ¬ ((1 : Int32) = (0 : Int32)))).1) ?_
      show Steps p.tables e below (Tr18.setTop (mkF m 171 #[.val (.int p0), .val (.long p1), .second, .val (.int p2), .val (.int p3), .val (.ref br1), .val (.int (Int32.ofNat a)), .val (.int (Int32.ofNat b)), .val (.int (Int32.ofNat (min a b))), .val (.int (Int32.ofNat (max a b))), .val (.int (Int32.ofNat r))] [])) _
      refine XS.aload Xr18.here hx rfl (hb hby at_171) rfl rfl ?_
      show Steps p.tables e below (Tr18.setTop (mkF m 173 #[.val (.int p0), .val (.long p1), .second, .val (.int p2), .val (.int p3), .val (.ref br1), .val (.int (Int32.ofNat a)), .val (.int (Int32.ofNat b)), .val (.int (Int32.ofNat (min a b))), .val (.int (Int32.ofNat (max a b))), .val (.int (Int32.ofNat r))] [(.ref br1)])) _
      refine XS.iconst Xr18.here hx rfl (hb hby at_173) ?_
      show Steps p.tables e below (Tr18.setTop (mkF m 174 #[.val (.int p0), .val (.long p1), .second, .val (.int p2), .val (.int p3), .val (.ref br1), .val (.int (Int32.ofNat a)), .val (.int (Int32.ofNat b)), .val (.int (Int32.ofNat (min a b))), .val (.int (Int32.ofNat (max a b))), .val (.int (Int32.ofNat r))] [(.int (4 : Int32)), (.ref br1)])) _
      refine XS.iload Xr18.here hx rfl (hb hby at_174) rfl ?_
      show Steps p.tables e below (Tr18.setTop (mkF m 176 #[.val (.int p0), .val (.long p1), .second, .val (.int p2), .val (.int p3), .val (.ref br1), .val (.int (Int32.ofNat a)), .val (.int (Int32.ofNat b)), .val (.int (Int32.ofNat (min a b))), .val (.int (Int32.ofNat (max a b))), .val (.int (Int32.ofNat r))] [(.int (Int32.ofNat (min a b))), (.int (4 : Int32)), (.ref br1)])) _
      refine XS.iload Xr18.here hx rfl (hb hby at_176) rfl ?_
      show Steps p.tables e below (Tr18.setTop (mkF m 178 #[.val (.int p0), .val (.long p1), .second, .val (.int p2), .val (.int p3), .val (.ref br1), .val (.int (Int32.ofNat a)), .val (.int (Int32.ofNat b)), .val (.int (Int32.ofNat (min a b))), .val (.int (Int32.ofNat (max a b))), .val (.int (Int32.ofNat r))] [(.int (Int32.ofNat r)), (.int (Int32.ofNat (min a b))), (.int (4 : Int32)), (.ref br1)])) _
      refine str19 _ ?_
      show Steps p.tables e below (Tr19.setTop (mkF m 181 #[.val (.int p0), .val (.long p1), .second, .val (.int p2), .val (.int p3), .val (.ref br1), .val (.int (Int32.ofNat a)), .val (.int (Int32.ofNat b)), .val (.int (Int32.ofNat (min a b))), .val (.int (Int32.ofNat (max a b))), .val (.int (Int32.ofNat r))] [(.int (1 : Int32))])) _
      refine XS.ifYes Xr19.here hx rfl (pc0 := 181) (pc' := 186) rfl (hb hby at_181) rfl ((if0 _ _).trans (feq (by decide : ¬ ((1 : Int32) = (0 : Int32)))).2) (by decide) (by decide) ?_
      show Steps p.tables e below (Tr19.setTop (mkF m 186 #[.val (.int p0), .val (.long p1), .second, .val (.int p2), .val (.int p3), .val (.ref br1), .val (.int (Int32.ofNat a)), .val (.int (Int32.ofNat b)), .val (.int (Int32.ofNat (min a b))), .val (.int (Int32.ofNat (max a b))), .val (.int (Int32.ofNat r))] [])) _
      refine XS.iload Xr19.here hx rfl (hb hby at_186) rfl ?_
      show Steps p.tables e below (Tr19.setTop (mkF m 188 #[.val (.int p0), .val (.long p1), .second, .val (.int p2), .val (.int p3), .val (.ref br1), .val (.int (Int32.ofNat a)), .val (.int (Int32.ofNat b)), .val (.int (Int32.ofNat (min a b))), .val (.int (Int32.ofNat (max a b))), .val (.int (Int32.ofNat r))] [(.int (Int32.ofNat r))])) _
      refine XS.iload Xr19.here hx rfl (hb hby at_188) rfl ?_
      show Steps p.tables e below (Tr19.setTop (mkF m 190 #[.val (.int p0), .val (.long p1), .second, .val (.int p2), .val (.int p3), .val (.ref br1), .val (.int (Int32.ofNat a)), .val (.int (Int32.ofNat b)), .val (.int (Int32.ofNat (min a b))), .val (.int (Int32.ofNat (max a b))), .val (.int (Int32.ofNat r))] [(.int (Int32.ofNat (max a b))), (.int (Int32.ofNat r))])) _
      refine XS.icmpYes Xr19.here hx rfl (pc0 := 190) (pc' := 205) rfl (hb hby at_190) rfl (teq ((own_inj (by omega) (by omega)).mpr hc)).1 (by decide) (by decide) ?_
      show Steps p.tables e below (Tr19.setTop (mkF m 205 #[.val (.int p0), .val (.long p1), .second, .val (.int p2), .val (.int p3), .val (.ref br1), .val (.int (Int32.ofNat a)), .val (.int (Int32.ofNat b)), .val (.int (Int32.ofNat (min a b))), .val (.int (Int32.ofNat (max a b))), .val (.int (Int32.ofNat r))] [])) _
      refine XS.iconst Xr19.here hx rfl (hb hby at_205) ?_
      show Steps p.tables e below (Tr19.setTop (mkF m 206 #[.val (.int p0), .val (.long p1), .second, .val (.int p2), .val (.int p3), .val (.ref br1), .val (.int (Int32.ofNat a)), .val (.int (Int32.ofNat b)), .val (.int (Int32.ofNat (min a b))), .val (.int (Int32.ofNat (max a b))), .val (.int (Int32.ofNat r))] [(.int (1 : Int32))])) _
      refine XS.goto Xr19.here hx rfl (pc0 := 206) (pc' := 210) rfl (hb hby at_206) (by decide) (by decide) ?_
      show Steps p.tables e below (Tr19.setTop (mkF m 210 #[.val (.int p0), .val (.long p1), .second, .val (.int p2), .val (.int p3), .val (.ref br1), .val (.int (Int32.ofNat a)), .val (.int (Int32.ofNat b)), .val (.int (Int32.ofNat (min a b))), .val (.int (Int32.ofNat (max a b))), .val (.int (Int32.ofNat r))] [(.int (1 : Int32))])) _
      exact retN Xr19 hx (t := .boolean) Bd.returns (by simp) (hb hby at_210) hr
    · show Q_law Z p0 p1 p2 p3 h0 n0 _ Tr19.heap _
      rw [er19]
      exact ⟨rfl, Nr19⟩
  · obtain ⟨_, _, ⟨Tr15, Lr15, kr15, nr15⟩, -, Xr15, ⟨Lcr15, hQr15, lr15, yr15, zr15⟩, str15⟩ := Jvm.LawKit.callS Xr14 hx (y := (⟨"com/example/elgin/elgin/broker/RequestHeadSkipEmptyLinesPinLaw", "inEmptyLines", "([BIII)Z"⟩ : MethodName)) hown (mvT hZ (hw _ (List.mem_of_getElem? (i := 17) rfl))) (mvT hZ (hw _ (List.mem_of_getElem? (i := 18) rfl))) (mvT hZ (hw _ (List.mem_of_getElem? (i := 3) rfl))) (mvT hZ (hw _ (List.mem_of_getElem? (i := 19) rfl))) (by decide) (backOf (W := 0) (rm_inl l Z a0 hw [] br1 0 (min a b) r (own_G p0 p1) cl hr11 n0 Zr11 Ar hsz hat (by decide) (by omega) (by omega) (r3 0)) hZ (hw _ (List.mem_of_getElem? (i := 19) rfl)) (hw _ (List.mem_of_getElem? (i := 3) rfl)) (by decide) (by decide)) (g := (mkF m 126 #[.val (.int p0), .val (.long p1), .second, .val (.int p2), .val (.int p3), .val (.ref br1), .val (.int (Int32.ofNat a)), .val (.int (Int32.ofNat b)), .val (.int (Int32.ofNat (min a b))), .val (.int (Int32.ofNat (max a b))), .val (.int (Int32.ofNat r))] [(.int (Int32.ofNat r)), (.int (Int32.ofNat (min a b))), (.int (0 : Int32)), (.ref br1)])) rfl (by rw [hml]; rfl) (argsL := [(.ref br1), (.int (0 : Int32)), (.int (Int32.ofNat (min a b))), (.int (Int32.ofNat r))]) (rest := []) (lenOf pd_law_3 rfl) rfl (by show 2 * 0 + _ ≤ _; exact Nat.le_of_eq rfl) (hb hby at_126) (fun _ _ => ⟨rfl, er14, (by decide : 1 + 0 ≤ _), (by decide : 5 + 0 ≤ _)⟩)
    dsimp only [Pt.U, Pt.locs, Pt.cells, Pt.slots] at Xr15 lr15 yr15 zr15 str15 hQr15
    subst lr15 yr15 zr15
    obtain ⟨rfl, Nr15q, er15⟩ := hQr15
    have Nr15 := Fr.app Nr14 Nr15q
    obtain ⟨_, _, ⟨Tr16, Lr16, kr16, nr16⟩, -, Xr16, ⟨Lcr16, hQr16, lr16, yr16, zr16⟩, str16⟩ := Jvm.LawKit.callS Xr15 hx (y := (⟨"com/example/elgin/elgin/broker/RequestHeadSkipEmptyLinesPinLaw", "inEmptyLines", "([BIII)Z"⟩ : MethodName)) hown (mvT hZ (hw _ (List.mem_of_getElem? (i := 17) rfl))) (mvT hZ (hw _ (List.mem_of_getElem? (i := 18) rfl))) (mvT hZ (hw _ (List.mem_of_getElem? (i := 3) rfl))) (mvT hZ (hw _ (List.mem_of_getElem? (i := 19) rfl))) (by decide) (backOf (W := 0) (rm_inl l Z a0 hw [] br1 1 (min a b) r (own_G p0 p1) cl hr11 n0 Zr11 Ar hsz hat (by decide) (by omega) (by omega) (r3 1)) hZ (hw _ (List.mem_of_getElem? (i := 19) rfl)) (hw _ (List.mem_of_getElem? (i := 3) rfl)) (by decide) (by decide)) (g := (mkF m 139 #[.val (.int p0), .val (.long p1), .second, .val (.int p2), .val (.int p3), .val (.ref br1), .val (.int (Int32.ofNat a)), .val (.int (Int32.ofNat b)), .val (.int (Int32.ofNat (min a b))), .val (.int (Int32.ofNat (max a b))), .val (.int (Int32.ofNat r))] [(.int (Int32.ofNat r)), (.int (Int32.ofNat (min a b))), (.int (1 : Int32)), (.ref br1)])) rfl (by rw [hml]; rfl) (argsL := [(.ref br1), (.int (1 : Int32)), (.int (Int32.ofNat (min a b))), (.int (Int32.ofNat r))]) (rest := []) (lenOf pd_law_3 rfl) rfl (by show 2 * 0 + _ ≤ _; exact Nat.le_of_eq rfl) (hb hby at_139) (fun _ _ => ⟨rfl, er15, (by decide : 1 + 0 ≤ _), (by decide : 5 + 0 ≤ _)⟩)
    dsimp only [Pt.U, Pt.locs, Pt.cells, Pt.slots] at Xr16 lr16 yr16 zr16 str16 hQr16
    subst lr16 yr16 zr16
    obtain ⟨rfl, Nr16q, er16⟩ := hQr16
    have Nr16 := Fr.app Nr15 Nr16q
    obtain ⟨_, _, ⟨Tr17, Lr17, kr17, nr17⟩, -, Xr17, ⟨Lcr17, hQr17, lr17, yr17, zr17⟩, str17⟩ := Jvm.LawKit.callS Xr16 hx (y := (⟨"com/example/elgin/elgin/broker/RequestHeadSkipEmptyLinesPinLaw", "inEmptyLines", "([BIII)Z"⟩ : MethodName)) hown (mvT hZ (hw _ (List.mem_of_getElem? (i := 17) rfl))) (mvT hZ (hw _ (List.mem_of_getElem? (i := 18) rfl))) (mvT hZ (hw _ (List.mem_of_getElem? (i := 3) rfl))) (mvT hZ (hw _ (List.mem_of_getElem? (i := 19) rfl))) (by decide) (backOf (W := 0) (rm_inl l Z a0 hw [] br1 2 (min a b) r (own_G p0 p1) cl hr11 n0 Zr11 Ar hsz hat (by decide) (by omega) (by omega) (r3 2)) hZ (hw _ (List.mem_of_getElem? (i := 19) rfl)) (hw _ (List.mem_of_getElem? (i := 3) rfl)) (by decide) (by decide)) (g := (mkF m 152 #[.val (.int p0), .val (.long p1), .second, .val (.int p2), .val (.int p3), .val (.ref br1), .val (.int (Int32.ofNat a)), .val (.int (Int32.ofNat b)), .val (.int (Int32.ofNat (min a b))), .val (.int (Int32.ofNat (max a b))), .val (.int (Int32.ofNat r))] [(.int (Int32.ofNat r)), (.int (Int32.ofNat (min a b))), (.int (2 : Int32)), (.ref br1)])) rfl (by rw [hml]; rfl) (argsL := [(.ref br1), (.int (2 : Int32)), (.int (Int32.ofNat (min a b))), (.int (Int32.ofNat r))]) (rest := []) (lenOf pd_law_3 rfl) rfl (by show 2 * 0 + _ ≤ _; exact Nat.le_of_eq rfl) (hb hby at_152) (fun _ _ => ⟨rfl, er16, (by decide : 1 + 0 ≤ _), (by decide : 5 + 0 ≤ _)⟩)
    dsimp only [Pt.U, Pt.locs, Pt.cells, Pt.slots] at Xr17 lr17 yr17 zr17 str17 hQr17
    subst lr17 yr17 zr17
    obtain ⟨rfl, Nr17q, er17⟩ := hQr17
    have Nr17 := Fr.app Nr16 Nr17q
    obtain ⟨_, _, ⟨Tr18, Lr18, kr18, nr18⟩, -, Xr18, ⟨Lcr18, hQr18, lr18, yr18, zr18⟩, str18⟩ := Jvm.LawKit.callS Xr17 hx (y := (⟨"com/example/elgin/elgin/broker/RequestHeadSkipEmptyLinesPinLaw", "inEmptyLines", "([BIII)Z"⟩ : MethodName)) hown (mvT hZ (hw _ (List.mem_of_getElem? (i := 17) rfl))) (mvT hZ (hw _ (List.mem_of_getElem? (i := 18) rfl))) (mvT hZ (hw _ (List.mem_of_getElem? (i := 3) rfl))) (mvT hZ (hw _ (List.mem_of_getElem? (i := 19) rfl))) (by decide) (backOf (W := 0) (rm_inl l Z a0 hw [] br1 3 (min a b) r (own_G p0 p1) cl hr11 n0 Zr11 Ar hsz hat (by decide) (by omega) (by omega) (r3 3)) hZ (hw _ (List.mem_of_getElem? (i := 19) rfl)) (hw _ (List.mem_of_getElem? (i := 3) rfl)) (by decide) (by decide)) (g := (mkF m 165 #[.val (.int p0), .val (.long p1), .second, .val (.int p2), .val (.int p3), .val (.ref br1), .val (.int (Int32.ofNat a)), .val (.int (Int32.ofNat b)), .val (.int (Int32.ofNat (min a b))), .val (.int (Int32.ofNat (max a b))), .val (.int (Int32.ofNat r))] [(.int (Int32.ofNat r)), (.int (Int32.ofNat (min a b))), (.int (3 : Int32)), (.ref br1)])) rfl (by rw [hml]; rfl) (argsL := [(.ref br1), (.int (3 : Int32)), (.int (Int32.ofNat (min a b))), (.int (Int32.ofNat r))]) (rest := []) (lenOf pd_law_3 rfl) rfl (by show 2 * 0 + _ ≤ _; exact Nat.le_of_eq rfl) (hb hby at_165) (fun _ _ => ⟨rfl, er17, (by decide : 1 + 0 ≤ _), (by decide : 5 + 0 ≤ _)⟩)
    dsimp only [Pt.U, Pt.locs, Pt.cells, Pt.slots] at Xr18 lr18 yr18 zr18 str18 hQr18
    subst lr18 yr18 zr18
    obtain ⟨rfl, Nr18q, er18⟩ := hQr18
    have Nr18 := Fr.app Nr17 Nr18q
    obtain ⟨_, _, ⟨Tr19, Lr19, kr19, nr19⟩, -, Xr19, ⟨Lcr19, hQr19, lr19, yr19, zr19⟩, str19⟩ := Jvm.LawKit.callS Xr18 hx (y := (⟨"com/example/elgin/elgin/broker/RequestHeadSkipEmptyLinesPinLaw", "inEmptyLines", "([BIII)Z"⟩ : MethodName)) hown (mvT hZ (hw _ (List.mem_of_getElem? (i := 17) rfl))) (mvT hZ (hw _ (List.mem_of_getElem? (i := 18) rfl))) (mvT hZ (hw _ (List.mem_of_getElem? (i := 3) rfl))) (mvT hZ (hw _ (List.mem_of_getElem? (i := 19) rfl))) (by decide) (backOf (W := 0) (rm_inl l Z a0 hw [] br1 4 (min a b) r (own_G p0 p1) cl hr11 n0 Zr11 Ar hsz hat (by decide) (by omega) (by omega) (r3 4)) hZ (hw _ (List.mem_of_getElem? (i := 19) rfl)) (hw _ (List.mem_of_getElem? (i := 3) rfl)) (by decide) (by decide)) (g := (mkF m 178 #[.val (.int p0), .val (.long p1), .second, .val (.int p2), .val (.int p3), .val (.ref br1), .val (.int (Int32.ofNat a)), .val (.int (Int32.ofNat b)), .val (.int (Int32.ofNat (min a b))), .val (.int (Int32.ofNat (max a b))), .val (.int (Int32.ofNat r))] [(.int (Int32.ofNat r)), (.int (Int32.ofNat (min a b))), (.int (4 : Int32)), (.ref br1)])) rfl (by rw [hml]; rfl) (argsL := [(.ref br1), (.int (4 : Int32)), (.int (Int32.ofNat (min a b))), (.int (Int32.ofNat r))]) (rest := []) (lenOf pd_law_3 rfl) rfl (by show 2 * 0 + _ ≤ _; exact Nat.le_of_eq rfl) (hb hby at_178) (fun _ _ => ⟨rfl, er18, (by decide : 1 + 0 ≤ _), (by decide : 5 + 0 ≤ _)⟩)
    dsimp only [Pt.U, Pt.locs, Pt.cells, Pt.slots] at Xr19 lr19 yr19 zr19 str19 hQr19
    subst lr19 yr19 zr19
    obtain ⟨rfl, Nr19q, er19⟩ := hQr19
    have Nr19 := Fr.app Nr18 Nr19q
    obtain ⟨_, _, ⟨Tr20, Lr20, kr20, nr20⟩, -, Xr20, ⟨Lcr20, hQr20, lr20, yr20, zr20⟩, str20⟩ := Jvm.LawKit.callS Xr19 hx (y := (⟨"com/example/elgin/elgin/broker/RequestHeadSkipEmptyLinesPinLaw", "startsEmptyLine", "([BII)Z"⟩ : MethodName)) hown (mvT hZ (hw _ (List.mem_of_getElem? (i := 20) rfl))) (mvT hZ (hw _ (List.mem_of_getElem? (i := 21) rfl))) (mvT hZ (hw _ (List.mem_of_getElem? (i := 3) rfl))) (mvT hZ (hw _ (List.mem_of_getElem? (i := 22) rfl))) (by decide) (backOf (W := 0) (rm_sta l Z a0 hw [] br1 r (max a b) (own_G p0 p1) cl hr11 n0 Zr11 Ar hsz hat (by omega) (by omega) (r4.resolve_left hc)) hZ (hw _ (List.mem_of_getElem? (i := 22) rfl)) (hw _ (List.mem_of_getElem? (i := 3) rfl)) (by decide) (by decide)) (g := (mkF m 199 #[.val (.int p0), .val (.long p1), .second, .val (.int p2), .val (.int p3), .val (.ref br1), .val (.int (Int32.ofNat a)), .val (.int (Int32.ofNat b)), .val (.int (Int32.ofNat (min a b))), .val (.int (Int32.ofNat (max a b))), .val (.int (Int32.ofNat r))] [(.int (Int32.ofNat (max a b))), (.int (Int32.ofNat r)), (.ref br1)])) rfl (by rw [hml]; rfl) (argsL := [(.ref br1), (.int (Int32.ofNat r)), (.int (Int32.ofNat (max a b)))]) (rest := []) (lenOf pd_law_4 rfl) rfl (by show 2 * 0 + _ ≤ _; exact Nat.le_of_eq rfl) (hb hby at_199) (fun _ _ => ⟨rfl, er19, (by decide : 1 + 0 ≤ _), (by decide : 5 + 0 ≤ _)⟩)
    dsimp only [Pt.U, Pt.locs, Pt.cells, Pt.slots] at Xr20 lr20 yr20 zr20 str20 hQr20
    subst lr20 yr20 zr20
    obtain ⟨rfl, Nr20q, er20⟩ := hQr20
    have Nr20 := Fr.app Nr19 Nr20q
    obtain ⟨fs, hr, hrun, hended, hW, hsame⟩ := Xr20.leave (v := some (.int (1 : Int32))) (fun h => by rw [Bd.returns] at h; cases h)
    refine ⟨_, _, pre0 _ ?_, hrun, hended, _, _, rfl, ?_, ⟨_, rfl⟩, hW, hsame.mono (by decide) (by decide)⟩
    · show Steps p.tables e below (s₁.setTop (mkF m 0 #[.val (.int p0), .val (.long p1), .second, .val (.int p2), .val (.int p3), .unset, .unset, .unset, .unset, .unset, .unset] [])) _
      refine XS.iconst X0.here hx rfl (hb hby at_0) ?_
      show Steps p.tables e below (s₁.setTop (mkF m 1 #[.val (.int p0), .val (.long p1), .second, .val (.int p2), .val (.int p3), .unset, .unset, .unset, .unset, .unset, .unset] [(.int (5 : Int32))])) _
      refine str1 _ ?_
      show Steps p.tables e below (Tr1.setTop (mkF m 3 #[.val (.int p0), .val (.long p1), .second, .val (.int p2), .val (.int p3), .unset, .unset, .unset, .unset, .unset, .unset] [(.ref br1)])) _
      refine XS.astore Xr1.here hx rfl (hb hby at_3) rfl rfl (l' := #[.val (.int p0), .val (.long p1), .second, .val (.int p2), .val (.int p3), .val (.ref br1), .unset, .unset, .unset, .unset, .unset]) rfl ?_
      show Steps p.tables e below (Tr1.setTop (mkF m 5 #[.val (.int p0), .val (.long p1), .second, .val (.int p2), .val (.int p3), .val (.ref br1), .unset, .unset, .unset, .unset, .unset] [])) _
      refine XS.aload Xr1.here hx rfl (hb hby at_5) rfl rfl ?_
      show Steps p.tables e below (Tr1.setTop (mkF m 7 #[.val (.int p0), .val (.long p1), .second, .val (.int p2), .val (.int p3), .val (.ref br1), .unset, .unset, .unset, .unset, .unset] [(.ref br1)])) _
      refine XS.iconst Xr1.here hx rfl (hb hby at_7) ?_
      show Steps p.tables e below (Tr1.setTop (mkF m 8 #[.val (.int p0), .val (.long p1), .second, .val (.int p2), .val (.int p3), .val (.ref br1), .unset, .unset, .unset, .unset, .unset] [(.int (0 : Int32)), (.ref br1)])) _
      refine XS.iloadN Xr1.here hx rfl (hb hby at_8) rfl ?_
      show Steps p.tables e below (Tr1.setTop (mkF m 9 #[.val (.int p0), .val (.long p1), .second, .val (.int p2), .val (.int p3), .val (.ref br1), .unset, .unset, .unset, .unset, .unset] [(.int p0), (.int (0 : Int32)), (.ref br1)])) _
      refine XS.lloadN Xr1.here hx rfl (hb hby at_9) rfl ?_
      show Steps p.tables e below (Tr1.setTop (mkF m 10 #[.val (.int p0), .val (.long p1), .second, .val (.int p2), .val (.int p3), .val (.ref br1), .unset, .unset, .unset, .unset, .unset] [(.long p1), (.int p0), (.int (0 : Int32)), (.ref br1)])) _
      refine XS.iconst Xr1.here hx rfl (hb hby at_10) ?_
      show Steps p.tables e below (Tr1.setTop (mkF m 11 #[.val (.int p0), .val (.long p1), .second, .val (.int p2), .val (.int p3), .val (.ref br1), .unset, .unset, .unset, .unset, .unset] [(.int (0 : Int32)), (.long p1), (.int p0), (.int (0 : Int32)), (.ref br1)])) _
      refine str2 _ ?_
      show Steps p.tables e below (Tr2.setTop (mkF m 14 #[.val (.int p0), .val (.long p1), .second, .val (.int p2), .val (.int p3), .val (.ref br1), .unset, .unset, .unset, .unset, .unset] [(.int (f_pick p0 p1 (0 : Int32))), (.int (0 : Int32)), (.ref br1)])) _
      refine str3 _ ?_
      show Steps p.tables e below (Tr3.setTop (mkF m 15 #[.val (.int p0), .val (.long p1), .second, .val (.int p2), .val (.int p3), .val (.ref br1), .unset, .unset, .unset, .unset, .unset] [])) _
      refine XS.aload Xr3.here hx rfl (hb hby at_15) rfl rfl ?_
      show Steps p.tables e below (Tr3.setTop (mkF m 17 #[.val (.int p0), .val (.long p1), .second, .val (.int p2), .val (.int p3), .val (.ref br1), .unset, .unset, .unset, .unset, .unset] [(.ref br1)])) _
      refine XS.iconst Xr3.here hx rfl (hb hby at_17) ?_
      show Steps p.tables e below (Tr3.setTop (mkF m 18 #[.val (.int p0), .val (.long p1), .second, .val (.int p2), .val (.int p3), .val (.ref br1), .unset, .unset, .unset, .unset, .unset] [(.int (1 : Int32)), (.ref br1)])) _
      refine XS.iloadN Xr3.here hx rfl (hb hby at_18) rfl ?_
      show Steps p.tables e below (Tr3.setTop (mkF m 19 #[.val (.int p0), .val (.long p1), .second, .val (.int p2), .val (.int p3), .val (.ref br1), .unset, .unset, .unset, .unset, .unset] [(.int p0), (.int (1 : Int32)), (.ref br1)])) _
      refine XS.lloadN Xr3.here hx rfl (hb hby at_19) rfl ?_
      show Steps p.tables e below (Tr3.setTop (mkF m 20 #[.val (.int p0), .val (.long p1), .second, .val (.int p2), .val (.int p3), .val (.ref br1), .unset, .unset, .unset, .unset, .unset] [(.long p1), (.int p0), (.int (1 : Int32)), (.ref br1)])) _
      refine XS.iconst Xr3.here hx rfl (hb hby at_20) ?_
      show Steps p.tables e below (Tr3.setTop (mkF m 21 #[.val (.int p0), .val (.long p1), .second, .val (.int p2), .val (.int p3), .val (.ref br1), .unset, .unset, .unset, .unset, .unset] [(.int (1 : Int32)), (.long p1), (.int p0), (.int (1 : Int32)), (.ref br1)])) _
      refine str4 _ ?_
      show Steps p.tables e below (Tr4.setTop (mkF m 24 #[.val (.int p0), .val (.long p1), .second, .val (.int p2), .val (.int p3), .val (.ref br1), .unset, .unset, .unset, .unset, .unset] [(.int (f_pick p0 p1 (1 : Int32))), (.int (1 : Int32)), (.ref br1)])) _
      refine str5 _ ?_
      show Steps p.tables e below (Tr5.setTop (mkF m 25 #[.val (.int p0), .val (.long p1), .second, .val (.int p2), .val (.int p3), .val (.ref br1), .unset, .unset, .unset, .unset, .unset] [])) _
      refine XS.aload Xr5.here hx rfl (hb hby at_25) rfl rfl ?_
      show Steps p.tables e below (Tr5.setTop (mkF m 27 #[.val (.int p0), .val (.long p1), .second, .val (.int p2), .val (.int p3), .val (.ref br1), .unset, .unset, .unset, .unset, .unset] [(.ref br1)])) _
      refine XS.iconst Xr5.here hx rfl (hb hby at_27) ?_
      show Steps p.tables e below (Tr5.setTop (mkF m 28 #[.val (.int p0), .val (.long p1), .second, .val (.int p2), .val (.int p3), .val (.ref br1), .unset, .unset, .unset, .unset, .unset] [(.int (2 : Int32)), (.ref br1)])) _
      refine XS.iloadN Xr5.here hx rfl (hb hby at_28) rfl ?_
      show Steps p.tables e below (Tr5.setTop (mkF m 29 #[.val (.int p0), .val (.long p1), .second, .val (.int p2), .val (.int p3), .val (.ref br1), .unset, .unset, .unset, .unset, .unset] [(.int p0), (.int (2 : Int32)), (.ref br1)])) _
      refine XS.lloadN Xr5.here hx rfl (hb hby at_29) rfl ?_
      show Steps p.tables e below (Tr5.setTop (mkF m 30 #[.val (.int p0), .val (.long p1), .second, .val (.int p2), .val (.int p3), .val (.ref br1), .unset, .unset, .unset, .unset, .unset] [(.long p1), (.int p0), (.int (2 : Int32)), (.ref br1)])) _
      refine XS.iconst Xr5.here hx rfl (hb hby at_30) ?_
      show Steps p.tables e below (Tr5.setTop (mkF m 31 #[.val (.int p0), .val (.long p1), .second, .val (.int p2), .val (.int p3), .val (.ref br1), .unset, .unset, .unset, .unset, .unset] [(.int (2 : Int32)), (.long p1), (.int p0), (.int (2 : Int32)), (.ref br1)])) _
      refine str6 _ ?_
      show Steps p.tables e below (Tr6.setTop (mkF m 34 #[.val (.int p0), .val (.long p1), .second, .val (.int p2), .val (.int p3), .val (.ref br1), .unset, .unset, .unset, .unset, .unset] [(.int (f_pick p0 p1 (2 : Int32))), (.int (2 : Int32)), (.ref br1)])) _
      refine str7 _ ?_
      show Steps p.tables e below (Tr7.setTop (mkF m 35 #[.val (.int p0), .val (.long p1), .second, .val (.int p2), .val (.int p3), .val (.ref br1), .unset, .unset, .unset, .unset, .unset] [])) _
      refine XS.aload Xr7.here hx rfl (hb hby at_35) rfl rfl ?_
      show Steps p.tables e below (Tr7.setTop (mkF m 37 #[.val (.int p0), .val (.long p1), .second, .val (.int p2), .val (.int p3), .val (.ref br1), .unset, .unset, .unset, .unset, .unset] [(.ref br1)])) _
      refine XS.iconst Xr7.here hx rfl (hb hby at_37) ?_
      show Steps p.tables e below (Tr7.setTop (mkF m 38 #[.val (.int p0), .val (.long p1), .second, .val (.int p2), .val (.int p3), .val (.ref br1), .unset, .unset, .unset, .unset, .unset] [(.int (3 : Int32)), (.ref br1)])) _
      refine XS.iloadN Xr7.here hx rfl (hb hby at_38) rfl ?_
      show Steps p.tables e below (Tr7.setTop (mkF m 39 #[.val (.int p0), .val (.long p1), .second, .val (.int p2), .val (.int p3), .val (.ref br1), .unset, .unset, .unset, .unset, .unset] [(.int p0), (.int (3 : Int32)), (.ref br1)])) _
      refine XS.lloadN Xr7.here hx rfl (hb hby at_39) rfl ?_
      show Steps p.tables e below (Tr7.setTop (mkF m 40 #[.val (.int p0), .val (.long p1), .second, .val (.int p2), .val (.int p3), .val (.ref br1), .unset, .unset, .unset, .unset, .unset] [(.long p1), (.int p0), (.int (3 : Int32)), (.ref br1)])) _
      refine XS.iconst Xr7.here hx rfl (hb hby at_40) ?_
      show Steps p.tables e below (Tr7.setTop (mkF m 41 #[.val (.int p0), .val (.long p1), .second, .val (.int p2), .val (.int p3), .val (.ref br1), .unset, .unset, .unset, .unset, .unset] [(.int (3 : Int32)), (.long p1), (.int p0), (.int (3 : Int32)), (.ref br1)])) _
      refine str8 _ ?_
      show Steps p.tables e below (Tr8.setTop (mkF m 44 #[.val (.int p0), .val (.long p1), .second, .val (.int p2), .val (.int p3), .val (.ref br1), .unset, .unset, .unset, .unset, .unset] [(.int (f_pick p0 p1 (3 : Int32))), (.int (3 : Int32)), (.ref br1)])) _
      refine str9 _ ?_
      show Steps p.tables e below (Tr9.setTop (mkF m 45 #[.val (.int p0), .val (.long p1), .second, .val (.int p2), .val (.int p3), .val (.ref br1), .unset, .unset, .unset, .unset, .unset] [])) _
      refine XS.aload Xr9.here hx rfl (hb hby at_45) rfl rfl ?_
      show Steps p.tables e below (Tr9.setTop (mkF m 47 #[.val (.int p0), .val (.long p1), .second, .val (.int p2), .val (.int p3), .val (.ref br1), .unset, .unset, .unset, .unset, .unset] [(.ref br1)])) _
      refine XS.iconst Xr9.here hx rfl (hb hby at_47) ?_
      show Steps p.tables e below (Tr9.setTop (mkF m 48 #[.val (.int p0), .val (.long p1), .second, .val (.int p2), .val (.int p3), .val (.ref br1), .unset, .unset, .unset, .unset, .unset] [(.int (4 : Int32)), (.ref br1)])) _
      refine XS.iloadN Xr9.here hx rfl (hb hby at_48) rfl ?_
      show Steps p.tables e below (Tr9.setTop (mkF m 49 #[.val (.int p0), .val (.long p1), .second, .val (.int p2), .val (.int p3), .val (.ref br1), .unset, .unset, .unset, .unset, .unset] [(.int p0), (.int (4 : Int32)), (.ref br1)])) _
      refine XS.lloadN Xr9.here hx rfl (hb hby at_49) rfl ?_
      show Steps p.tables e below (Tr9.setTop (mkF m 50 #[.val (.int p0), .val (.long p1), .second, .val (.int p2), .val (.int p3), .val (.ref br1), .unset, .unset, .unset, .unset, .unset] [(.long p1), (.int p0), (.int (4 : Int32)), (.ref br1)])) _
      refine XS.iconst Xr9.here hx rfl (hb hby at_50) ?_
      show Steps p.tables e below (Tr9.setTop (mkF m 51 #[.val (.int p0), .val (.long p1), .second, .val (.int p2), .val (.int p3), .val (.ref br1), .unset, .unset, .unset, .unset, .unset] [(.int (4 : Int32)), (.long p1), (.int p0), (.int (4 : Int32)), (.ref br1)])) _
      refine str10 _ ?_
      show Steps p.tables e below (Tr10.setTop (mkF m 54 #[.val (.int p0), .val (.long p1), .second, .val (.int p2), .val (.int p3), .val (.ref br1), .unset, .unset, .unset, .unset, .unset] [(.int (f_pick p0 p1 (4 : Int32))), (.int (4 : Int32)), (.ref br1)])) _
      refine str11 _ ?_
      show Steps p.tables e below (Tr11.setTop (mkF m 55 #[.val (.int p0), .val (.long p1), .second, .val (.int p2), .val (.int p3), .val (.ref br1), .unset, .unset, .unset, .unset, .unset] [])) _
      refine XS.iloadN Xr11.here hx rfl (hb hby at_55) rfl ?_
      show Steps p.tables e below (Tr11.setTop (mkF m 56 #[.val (.int p0), .val (.long p1), .second, .val (.int p2), .val (.int p3), .val (.ref br1), .unset, .unset, .unset, .unset, .unset] [(.int p2)])) _
      refine Xr11.ldcInt hx hown (mvT hZ (hw _ (List.mem_of_getElem? (i := 5) rfl))) (g := (mkF m 56 #[.val (.int p0), .val (.long p1), .second, .val (.int p2), .val (.int p3), .val (.ref br1), .unset, .unset, .unset, .unset, .unset] [(.int p2)])) rfl (hb hby at_56) _ ?_
      show Steps p.tables e below (Tr11.setTop (mkF m 58 #[.val (.int p0), .val (.long p1), .second, .val (.int p2), .val (.int p3), .val (.ref br1), .unset, .unset, .unset, .unset, .unset] [(.int (2147483647 : Int32)), (.int p2)])) _
      refine XS.iand Xr11.here hx rfl (hb hby at_58) rfl ?_
      show Steps p.tables e below (Tr11.setTop (mkF m 59 #[.val (.int p0), .val (.long p1), .second, .val (.int p2), .val (.int p3), .val (.ref br1), .unset, .unset, .unset, .unset, .unset] [(.int (p2 &&& (2147483647 : Int32)))])) _
      refine XS.bipush Xr11.here hx rfl (hb hby at_59) ?_
      show Steps p.tables e below (Tr11.setTop (mkF m 61 #[.val (.int p0), .val (.long p1), .second, .val (.int p2), .val (.int p3), .val (.ref br1), .unset, .unset, .unset, .unset, .unset] [(.int (6 : Int32)), (.int (p2 &&& (2147483647 : Int32)))])) _
      refine Jvm.RoadKit.iremM Xr11 hx rfl (hb hby at_61) rfl (by decide) ?_
      rw [ea]
      show Steps p.tables e below (Tr11.setTop (mkF m 62 #[.val (.int p0), .val (.long p1), .second, .val (.int p2), .val (.int p3), .val (.ref br1), .unset, .unset, .unset, .unset, .unset] [(.int (Int32.ofNat a))])) _
      refine XS.istore Xr11.here hx rfl (hb hby at_62) rfl (l' := #[.val (.int p0), .val (.long p1), .second, .val (.int p2), .val (.int p3), .val (.ref br1), .val (.int (Int32.ofNat a)), .unset, .unset, .unset, .unset]) rfl ?_
      show Steps p.tables e below (Tr11.setTop (mkF m 64 #[.val (.int p0), .val (.long p1), .second, .val (.int p2), .val (.int p3), .val (.ref br1), .val (.int (Int32.ofNat a)), .unset, .unset, .unset, .unset] [])) _
      refine XS.iload Xr11.here hx rfl (hb hby at_64) rfl ?_
      show Steps p.tables e below (Tr11.setTop (mkF m 66 #[.val (.int p0), .val (.long p1), .second, .val (.int p2), .val (.int p3), .val (.ref br1), .val (.int (Int32.ofNat a)), .unset, .unset, .unset, .unset] [(.int p3)])) _
      refine Xr11.ldcInt hx hown (mvT hZ (hw _ (List.mem_of_getElem? (i := 5) rfl))) (g := (mkF m 66 #[.val (.int p0), .val (.long p1), .second, .val (.int p2), .val (.int p3), .val (.ref br1), .val (.int (Int32.ofNat a)), .unset, .unset, .unset, .unset] [(.int p3)])) rfl (hb hby at_66) _ ?_
      show Steps p.tables e below (Tr11.setTop (mkF m 68 #[.val (.int p0), .val (.long p1), .second, .val (.int p2), .val (.int p3), .val (.ref br1), .val (.int (Int32.ofNat a)), .unset, .unset, .unset, .unset] [(.int (2147483647 : Int32)), (.int p3)])) _
      refine XS.iand Xr11.here hx rfl (hb hby at_68) rfl ?_
      show Steps p.tables e below (Tr11.setTop (mkF m 69 #[.val (.int p0), .val (.long p1), .second, .val (.int p2), .val (.int p3), .val (.ref br1), .val (.int (Int32.ofNat a)), .unset, .unset, .unset, .unset] [(.int (p3 &&& (2147483647 : Int32)))])) _
      refine XS.bipush Xr11.here hx rfl (hb hby at_69) ?_
      show Steps p.tables e below (Tr11.setTop (mkF m 71 #[.val (.int p0), .val (.long p1), .second, .val (.int p2), .val (.int p3), .val (.ref br1), .val (.int (Int32.ofNat a)), .unset, .unset, .unset, .unset] [(.int (6 : Int32)), (.int (p3 &&& (2147483647 : Int32)))])) _
      refine Jvm.RoadKit.iremM Xr11 hx rfl (hb hby at_71) rfl (by decide) ?_
      rw [eb]
      show Steps p.tables e below (Tr11.setTop (mkF m 72 #[.val (.int p0), .val (.long p1), .second, .val (.int p2), .val (.int p3), .val (.ref br1), .val (.int (Int32.ofNat a)), .unset, .unset, .unset, .unset] [(.int (Int32.ofNat b))])) _
      refine XS.istore Xr11.here hx rfl (hb hby at_72) rfl (l' := #[.val (.int p0), .val (.long p1), .second, .val (.int p2), .val (.int p3), .val (.ref br1), .val (.int (Int32.ofNat a)), .val (.int (Int32.ofNat b)), .unset, .unset, .unset]) rfl ?_
      show Steps p.tables e below (Tr11.setTop (mkF m 74 #[.val (.int p0), .val (.long p1), .second, .val (.int p2), .val (.int p3), .val (.ref br1), .val (.int (Int32.ofNat a)), .val (.int (Int32.ofNat b)), .unset, .unset, .unset] [])) _
      refine XS.iload Xr11.here hx rfl (hb hby at_74) rfl ?_
      show Steps p.tables e below (Tr11.setTop (mkF m 76 #[.val (.int p0), .val (.long p1), .second, .val (.int p2), .val (.int p3), .val (.ref br1), .val (.int (Int32.ofNat a)), .val (.int (Int32.ofNat b)), .unset, .unset, .unset] [(.int (Int32.ofNat a))])) _
      refine XS.iload Xr11.here hx rfl (hb hby at_76) rfl ?_
      show Steps p.tables e below (Tr11.setTop (mkF m 78 #[.val (.int p0), .val (.long p1), .second, .val (.int p2), .val (.int p3), .val (.ref br1), .val (.int (Int32.ofNat a)), .val (.int (Int32.ofNat b)), .unset, .unset, .unset] [(.int (Int32.ofNat b)), (.int (Int32.ofNat a))])) _
      refine str12 _ ?_
      rw [own_min ha5 hb5]
      show Steps p.tables e below (Tr12.setTop (mkF m 81 #[.val (.int p0), .val (.long p1), .second, .val (.int p2), .val (.int p3), .val (.ref br1), .val (.int (Int32.ofNat a)), .val (.int (Int32.ofNat b)), .unset, .unset, .unset] [(.int (Int32.ofNat (min a b)))])) _
      refine XS.istore Xr12.here hx rfl (hb hby at_81) rfl (l' := #[.val (.int p0), .val (.long p1), .second, .val (.int p2), .val (.int p3), .val (.ref br1), .val (.int (Int32.ofNat a)), .val (.int (Int32.ofNat b)), .val (.int (Int32.ofNat (min a b))), .unset, .unset]) rfl ?_
      show Steps p.tables e below (Tr12.setTop (mkF m 83 #[.val (.int p0), .val (.long p1), .second, .val (.int p2), .val (.int p3), .val (.ref br1), .val (.int (Int32.ofNat a)), .val (.int (Int32.ofNat b)), .val (.int (Int32.ofNat (min a b))), .unset, .unset] [])) _
      refine XS.iload Xr12.here hx rfl (hb hby at_83) rfl ?_
      show Steps p.tables e below (Tr12.setTop (mkF m 85 #[.val (.int p0), .val (.long p1), .second, .val (.int p2), .val (.int p3), .val (.ref br1), .val (.int (Int32.ofNat a)), .val (.int (Int32.ofNat b)), .val (.int (Int32.ofNat (min a b))), .unset, .unset] [(.int (Int32.ofNat a))])) _
      refine XS.iload Xr12.here hx rfl (hb hby at_85) rfl ?_
      show Steps p.tables e below (Tr12.setTop (mkF m 87 #[.val (.int p0), .val (.long p1), .second, .val (.int p2), .val (.int p3), .val (.ref br1), .val (.int (Int32.ofNat a)), .val (.int (Int32.ofNat b)), .val (.int (Int32.ofNat (min a b))), .unset, .unset] [(.int (Int32.ofNat b)), (.int (Int32.ofNat a))])) _
      refine str13 _ ?_
      rw [own_max ha5 hb5]
      show Steps p.tables e below (Tr13.setTop (mkF m 90 #[.val (.int p0), .val (.long p1), .second, .val (.int p2), .val (.int p3), .val (.ref br1), .val (.int (Int32.ofNat a)), .val (.int (Int32.ofNat b)), .val (.int (Int32.ofNat (min a b))), .unset, .unset] [(.int (Int32.ofNat (max a b)))])) _
      refine XS.istore Xr13.here hx rfl (hb hby at_90) rfl (l' := #[.val (.int p0), .val (.long p1), .second, .val (.int p2), .val (.int p3), .val (.ref br1), .val (.int (Int32.ofNat a)), .val (.int (Int32.ofNat b)), .val (.int (Int32.ofNat (min a b))), .val (.int (Int32.ofNat (max a b))), .unset]) rfl ?_
      show Steps p.tables e below (Tr13.setTop (mkF m 92 #[.val (.int p0), .val (.long p1), .second, .val (.int p2), .val (.int p3), .val (.ref br1), .val (.int (Int32.ofNat a)), .val (.int (Int32.ofNat b)), .val (.int (Int32.ofNat (min a b))), .val (.int (Int32.ofNat (max a b))), .unset] [])) _
      refine XS.aload Xr13.here hx rfl (hb hby at_92) rfl rfl ?_
      show Steps p.tables e below (Tr13.setTop (mkF m 94 #[.val (.int p0), .val (.long p1), .second, .val (.int p2), .val (.int p3), .val (.ref br1), .val (.int (Int32.ofNat a)), .val (.int (Int32.ofNat b)), .val (.int (Int32.ofNat (min a b))), .val (.int (Int32.ofNat (max a b))), .unset] [(.ref br1)])) _
      refine XS.iload Xr13.here hx rfl (hb hby at_94) rfl ?_
      show Steps p.tables e below (Tr13.setTop (mkF m 96 #[.val (.int p0), .val (.long p1), .second, .val (.int p2), .val (.int p3), .val (.ref br1), .val (.int (Int32.ofNat a)), .val (.int (Int32.ofNat b)), .val (.int (Int32.ofNat (min a b))), .val (.int (Int32.ofNat (max a b))), .unset] [(.int (Int32.ofNat (min a b))), (.ref br1)])) _
      refine XS.iload Xr13.here hx rfl (hb hby at_96) rfl ?_
      show Steps p.tables e below (Tr13.setTop (mkF m 98 #[.val (.int p0), .val (.long p1), .second, .val (.int p2), .val (.int p3), .val (.ref br1), .val (.int (Int32.ofNat a)), .val (.int (Int32.ofNat b)), .val (.int (Int32.ofNat (min a b))), .val (.int (Int32.ofNat (max a b))), .unset] [(.int (Int32.ofNat (max a b))), (.int (Int32.ofNat (min a b))), (.ref br1)])) _
      refine str14 _ ?_
      show Steps p.tables e below (Tr14.setTop (mkF m 101 #[.val (.int p0), .val (.long p1), .second, .val (.int p2), .val (.int p3), .val (.ref br1), .val (.int (Int32.ofNat a)), .val (.int (Int32.ofNat b)), .val (.int (Int32.ofNat (min a b))), .val (.int (Int32.ofNat (max a b))), .unset] [(.int (Int32.ofNat r))])) _
      refine XS.istore Xr14.here hx rfl (hb hby at_101) rfl (l' := #[.val (.int p0), .val (.long p1), .second, .val (.int p2), .val (.int p3), .val (.ref br1), .val (.int (Int32.ofNat a)), .val (.int (Int32.ofNat b)), .val (.int (Int32.ofNat (min a b))), .val (.int (Int32.ofNat (max a b))), .val (.int (Int32.ofNat r))]) rfl ?_
      show Steps p.tables e below (Tr14.setTop (mkF m 103 #[.val (.int p0), .val (.long p1), .second, .val (.int p2), .val (.int p3), .val (.ref br1), .val (.int (Int32.ofNat a)), .val (.int (Int32.ofNat b)), .val (.int (Int32.ofNat (min a b))), .val (.int (Int32.ofNat (max a b))), .val (.int (Int32.ofNat r))] [])) _
      refine XS.iload Xr14.here hx rfl (hb hby at_103) rfl ?_
      show Steps p.tables e below (Tr14.setTop (mkF m 105 #[.val (.int p0), .val (.long p1), .second, .val (.int p2), .val (.int p3), .val (.ref br1), .val (.int (Int32.ofNat a)), .val (.int (Int32.ofNat b)), .val (.int (Int32.ofNat (min a b))), .val (.int (Int32.ofNat (max a b))), .val (.int (Int32.ofNat r))] [(.int (Int32.ofNat r))])) _
      refine XS.iload Xr14.here hx rfl (hb hby at_105) rfl ?_
      show Steps p.tables e below (Tr14.setTop (mkF m 107 #[.val (.int p0), .val (.long p1), .second, .val (.int p2), .val (.int p3), .val (.ref br1), .val (.int (Int32.ofNat a)), .val (.int (Int32.ofNat b)), .val (.int (Int32.ofNat (min a b))), .val (.int (Int32.ofNat (max a b))), .val (.int (Int32.ofNat r))] [(.int (Int32.ofNat (min a b))), (.int (Int32.ofNat r))])) _
      refine XS.icmpNo Xr14.here hx rfl (hb hby at_107) rfl (flt (fun q => absurd ((own_lt (by omega) (by omega)).mp q) (by omega))).1 ?_
      show Steps p.tables e below (Tr14.setTop (mkF m 110 #[.val (.int p0), .val (.long p1), .second, .val (.int p2), .val (.int p3), .val (.ref br1), .val (.int (Int32.ofNat a)), .val (.int (Int32.ofNat b)), .val (.int (Int32.ofNat (min a b))), .val (.int (Int32.ofNat (max a b))), .val (.int (Int32.ofNat r))] [])) _
      refine XS.iload Xr14.here hx rfl (hb hby at_110) rfl ?_
      show Steps p.tables e below (Tr14.setTop (mkF m 112 #[.val (.int p0), .val (.long p1), .second, .val (.int p2), .val (.int p3), .val (.ref br1), .val (.int (Int32.ofNat a)), .val (.int (Int32.ofNat b)), .val (.int (Int32.ofNat (min a b))), .val (.int (Int32.ofNat (max a b))), .val (.int (Int32.ofNat r))] [(.int (Int32.ofNat r))])) _
      refine XS.iload Xr14.here hx rfl (hb hby at_112) rfl ?_
      show Steps p.tables e below (Tr14.setTop (mkF m 114 #[.val (.int p0), .val (.long p1), .second, .val (.int p2), .val (.int p3), .val (.ref br1), .val (.int (Int32.ofNat a)), .val (.int (Int32.ofNat b)), .val (.int (Int32.ofNat (min a b))), .val (.int (Int32.ofNat (max a b))), .val (.int (Int32.ofNat r))] [(.int (Int32.ofNat (max a b))), (.int (Int32.ofNat r))])) _
      refine XS.icmpYes Xr14.here hx rfl (pc0 := 114) (pc' := 119) rfl (hb hby at_114) rfl (flt (fun q => absurd ((own_lt (by omega) (by omega)).mp q) (by omega))).2.2.2 (by decide) (by decide) ?_
      show Steps p.tables e below (Tr14.setTop (mkF m 119 #[.val (.int p0), .val (.long p1), .second, .val (.int p2), .val (.int p3), .val (.ref br1), .val (.int (Int32.ofNat a)), .val (.int (Int32.ofNat b)), .val (.int (Int32.ofNat (min a b))), .val (.int (Int32.ofNat (max a b))), .val (.int (Int32.ofNat r))] [])) _
      refine XS.aload Xr14.here hx rfl (hb hby at_119) rfl rfl ?_
      show Steps p.tables e below (Tr14.setTop (mkF m 121 #[.val (.int p0), .val (.long p1), .second, .val (.int p2), .val (.int p3), .val (.ref br1), .val (.int (Int32.ofNat a)), .val (.int (Int32.ofNat b)), .val (.int (Int32.ofNat (min a b))), .val (.int (Int32.ofNat (max a b))), .val (.int (Int32.ofNat r))] [(.ref br1)])) _
      refine XS.iconst Xr14.here hx rfl (hb hby at_121) ?_
      show Steps p.tables e below (Tr14.setTop (mkF m 122 #[.val (.int p0), .val (.long p1), .second, .val (.int p2), .val (.int p3), .val (.ref br1), .val (.int (Int32.ofNat a)), .val (.int (Int32.ofNat b)), .val (.int (Int32.ofNat (min a b))), .val (.int (Int32.ofNat (max a b))), .val (.int (Int32.ofNat r))] [(.int (0 : Int32)), (.ref br1)])) _
      refine XS.iload Xr14.here hx rfl (hb hby at_122) rfl ?_
      show Steps p.tables e below (Tr14.setTop (mkF m 124 #[.val (.int p0), .val (.long p1), .second, .val (.int p2), .val (.int p3), .val (.ref br1), .val (.int (Int32.ofNat a)), .val (.int (Int32.ofNat b)), .val (.int (Int32.ofNat (min a b))), .val (.int (Int32.ofNat (max a b))), .val (.int (Int32.ofNat r))] [(.int (Int32.ofNat (min a b))), (.int (0 : Int32)), (.ref br1)])) _
      refine XS.iload Xr14.here hx rfl (hb hby at_124) rfl ?_
      show Steps p.tables e below (Tr14.setTop (mkF m 126 #[.val (.int p0), .val (.long p1), .second, .val (.int p2), .val (.int p3), .val (.ref br1), .val (.int (Int32.ofNat a)), .val (.int (Int32.ofNat b)), .val (.int (Int32.ofNat (min a b))), .val (.int (Int32.ofNat (max a b))), .val (.int (Int32.ofNat r))] [(.int (Int32.ofNat r)), (.int (Int32.ofNat (min a b))), (.int (0 : Int32)), (.ref br1)])) _
      refine str15 _ ?_
      show Steps p.tables e below (Tr15.setTop (mkF m 129 #[.val (.int p0), .val (.long p1), .second, .val (.int p2), .val (.int p3), .val (.ref br1), .val (.int (Int32.ofNat a)), .val (.int (Int32.ofNat b)), .val (.int (Int32.ofNat (min a b))), .val (.int (Int32.ofNat (max a b))), .val (.int (Int32.ofNat r))] [(.int (1 : Int32))])) _
      refine XS.ifNo Xr15.here hx rfl (hb hby at_129) rfl ((if0 _ _).trans (feq (by decide : ¬ ((1 : Int32) = (0 : Int32)))).1) ?_
      show Steps p.tables e below (Tr15.setTop (mkF m 132 #[.val (.int p0), .val (.long p1), .second, .val (.int p2), .val (.int p3), .val (.ref br1), .val (.int (Int32.ofNat a)), .val (.int (Int32.ofNat b)), .val (.int (Int32.ofNat (min a b))), .val (.int (Int32.ofNat (max a b))), .val (.int (Int32.ofNat r))] [])) _
      refine XS.aload Xr15.here hx rfl (hb hby at_132) rfl rfl ?_
      show Steps p.tables e below (Tr15.setTop (mkF m 134 #[.val (.int p0), .val (.long p1), .second, .val (.int p2), .val (.int p3), .val (.ref br1), .val (.int (Int32.ofNat a)), .val (.int (Int32.ofNat b)), .val (.int (Int32.ofNat (min a b))), .val (.int (Int32.ofNat (max a b))), .val (.int (Int32.ofNat r))] [(.ref br1)])) _
      refine XS.iconst Xr15.here hx rfl (hb hby at_134) ?_
      show Steps p.tables e below (Tr15.setTop (mkF m 135 #[.val (.int p0), .val (.long p1), .second, .val (.int p2), .val (.int p3), .val (.ref br1), .val (.int (Int32.ofNat a)), .val (.int (Int32.ofNat b)), .val (.int (Int32.ofNat (min a b))), .val (.int (Int32.ofNat (max a b))), .val (.int (Int32.ofNat r))] [(.int (1 : Int32)), (.ref br1)])) _
      refine XS.iload Xr15.here hx rfl (hb hby at_135) rfl ?_
      show Steps p.tables e below (Tr15.setTop (mkF m 137 #[.val (.int p0), .val (.long p1), .second, .val (.int p2), .val (.int p3), .val (.ref br1), .val (.int (Int32.ofNat a)), .val (.int (Int32.ofNat b)), .val (.int (Int32.ofNat (min a b))), .val (.int (Int32.ofNat (max a b))), .val (.int (Int32.ofNat r))] [(.int (Int32.ofNat (min a b))), (.int (1 : Int32)), (.ref br1)])) _
      refine XS.iload Xr15.here hx rfl (hb hby at_137) rfl ?_
      show Steps p.tables e below (Tr15.setTop (mkF m 139 #[.val (.int p0), .val (.long p1), .second, .val (.int p2), .val (.int p3), .val (.ref br1), .val (.int (Int32.ofNat a)), .val (.int (Int32.ofNat b)), .val (.int (Int32.ofNat (min a b))), .val (.int (Int32.ofNat (max a b))), .val (.int (Int32.ofNat r))] [(.int (Int32.ofNat r)), (.int (Int32.ofNat (min a b))), (.int (1 : Int32)), (.ref br1)])) _
      refine str16 _ ?_
      show Steps p.tables e below (Tr16.setTop (mkF m 142 #[.val (.int p0), .val (.long p1), .second, .val (.int p2), .val (.int p3), .val (.ref br1), .val (.int (Int32.ofNat a)), .val (.int (Int32.ofNat b)), .val (.int (Int32.ofNat (min a b))), .val (.int (Int32.ofNat (max a b))), .val (.int (Int32.ofNat r))] [(.int (1 : Int32))])) _
      refine XS.ifNo Xr16.here hx rfl (hb hby at_142) rfl ((if0 _ _).trans (feq (by decide : ¬ ((1 : Int32) = (0 : Int32)))).1) ?_
      show Steps p.tables e below (Tr16.setTop (mkF m 145 #[.val (.int p0), .val (.long p1), .second, .val (.int p2), .val (.int p3), .val (.ref br1), .val (.int (Int32.ofNat a)), .val (.int (Int32.ofNat b)), .val (.int (Int32.ofNat (min a b))), .val (.int (Int32.ofNat (max a b))), .val (.int (Int32.ofNat r))] [])) _
      refine XS.aload Xr16.here hx rfl (hb hby at_145) rfl rfl ?_
      show Steps p.tables e below (Tr16.setTop (mkF m 147 #[.val (.int p0), .val (.long p1), .second, .val (.int p2), .val (.int p3), .val (.ref br1), .val (.int (Int32.ofNat a)), .val (.int (Int32.ofNat b)), .val (.int (Int32.ofNat (min a b))), .val (.int (Int32.ofNat (max a b))), .val (.int (Int32.ofNat r))] [(.ref br1)])) _
      refine XS.iconst Xr16.here hx rfl (hb hby at_147) ?_
      show Steps p.tables e below (Tr16.setTop (mkF m 148 #[.val (.int p0), .val (.long p1), .second, .val (.int p2), .val (.int p3), .val (.ref br1), .val (.int (Int32.ofNat a)), .val (.int (Int32.ofNat b)), .val (.int (Int32.ofNat (min a b))), .val (.int (Int32.ofNat (max a b))), .val (.int (Int32.ofNat r))] [(.int (2 : Int32)), (.ref br1)])) _
      refine XS.iload Xr16.here hx rfl (hb hby at_148) rfl ?_
      show Steps p.tables e below (Tr16.setTop (mkF m 150 #[.val (.int p0), .val (.long p1), .second, .val (.int p2), .val (.int p3), .val (.ref br1), .val (.int (Int32.ofNat a)), .val (.int (Int32.ofNat b)), .val (.int (Int32.ofNat (min a b))), .val (.int (Int32.ofNat (max a b))), .val (.int (Int32.ofNat r))] [(.int (Int32.ofNat (min a b))), (.int (2 : Int32)), (.ref br1)])) _
      refine XS.iload Xr16.here hx rfl (hb hby at_150) rfl ?_
      show Steps p.tables e below (Tr16.setTop (mkF m 152 #[.val (.int p0), .val (.long p1), .second, .val (.int p2), .val (.int p3), .val (.ref br1), .val (.int (Int32.ofNat a)), .val (.int (Int32.ofNat b)), .val (.int (Int32.ofNat (min a b))), .val (.int (Int32.ofNat (max a b))), .val (.int (Int32.ofNat r))] [(.int (Int32.ofNat r)), (.int (Int32.ofNat (min a b))), (.int (2 : Int32)), (.ref br1)])) _
      refine str17 _ ?_
      show Steps p.tables e below (Tr17.setTop (mkF m 155 #[.val (.int p0), .val (.long p1), .second, .val (.int p2), .val (.int p3), .val (.ref br1), .val (.int (Int32.ofNat a)), .val (.int (Int32.ofNat b)), .val (.int (Int32.ofNat (min a b))), .val (.int (Int32.ofNat (max a b))), .val (.int (Int32.ofNat r))] [(.int (1 : Int32))])) _
      refine XS.ifNo Xr17.here hx rfl (hb hby at_155) rfl ((if0 _ _).trans (feq (by decide : ¬ ((1 : Int32) = (0 : Int32)))).1) ?_
      show Steps p.tables e below (Tr17.setTop (mkF m 158 #[.val (.int p0), .val (.long p1), .second, .val (.int p2), .val (.int p3), .val (.ref br1), .val (.int (Int32.ofNat a)), .val (.int (Int32.ofNat b)), .val (.int (Int32.ofNat (min a b))), .val (.int (Int32.ofNat (max a b))), .val (.int (Int32.ofNat r))] [])) _
      refine XS.aload Xr17.here hx rfl (hb hby at_158) rfl rfl ?_
      show Steps p.tables e below (Tr17.setTop (mkF m 160 #[.val (.int p0), .val (.long p1), .second, .val (.int p2), .val (.int p3), .val (.ref br1), .val (.int (Int32.ofNat a)), .val (.int (Int32.ofNat b)), .val (.int (Int32.ofNat (min a b))), .val (.int (Int32.ofNat (max a b))), .val (.int (Int32.ofNat r))] [(.ref br1)])) _
      refine XS.iconst Xr17.here hx rfl (hb hby at_160) ?_
      show Steps p.tables e below (Tr17.setTop (mkF m 161 #[.val (.int p0), .val (.long p1), .second, .val (.int p2), .val (.int p3), .val (.ref br1), .val (.int (Int32.ofNat a)), .val (.int (Int32.ofNat b)), .val (.int (Int32.ofNat (min a b))), .val (.int (Int32.ofNat (max a b))), .val (.int (Int32.ofNat r))] [(.int (3 : Int32)), (.ref br1)])) _
      refine XS.iload Xr17.here hx rfl (hb hby at_161) rfl ?_
      show Steps p.tables e below (Tr17.setTop (mkF m 163 #[.val (.int p0), .val (.long p1), .second, .val (.int p2), .val (.int p3), .val (.ref br1), .val (.int (Int32.ofNat a)), .val (.int (Int32.ofNat b)), .val (.int (Int32.ofNat (min a b))), .val (.int (Int32.ofNat (max a b))), .val (.int (Int32.ofNat r))] [(.int (Int32.ofNat (min a b))), (.int (3 : Int32)), (.ref br1)])) _
      refine XS.iload Xr17.here hx rfl (hb hby at_163) rfl ?_
      show Steps p.tables e below (Tr17.setTop (mkF m 165 #[.val (.int p0), .val (.long p1), .second, .val (.int p2), .val (.int p3), .val (.ref br1), .val (.int (Int32.ofNat a)), .val (.int (Int32.ofNat b)), .val (.int (Int32.ofNat (min a b))), .val (.int (Int32.ofNat (max a b))), .val (.int (Int32.ofNat r))] [(.int (Int32.ofNat r)), (.int (Int32.ofNat (min a b))), (.int (3 : Int32)), (.ref br1)])) _
      refine str18 _ ?_
      show Steps p.tables e below (Tr18.setTop (mkF m 168 #[.val (.int p0), .val (.long p1), .second, .val (.int p2), .val (.int p3), .val (.ref br1), .val (.int (Int32.ofNat a)), .val (.int (Int32.ofNat b)), .val (.int (Int32.ofNat (min a b))), .val (.int (Int32.ofNat (max a b))), .val (.int (Int32.ofNat r))] [(.int (1 : Int32))])) _
      refine XS.ifNo Xr18.here hx rfl (hb hby at_168) rfl ((if0 _ _).trans (feq (by decide : ¬ ((1 : Int32) = (0 : Int32)))).1) ?_
      show Steps p.tables e below (Tr18.setTop (mkF m 171 #[.val (.int p0), .val (.long p1), .second, .val (.int p2), .val (.int p3), .val (.ref br1), .val (.int (Int32.ofNat a)), .val (.int (Int32.ofNat b)), .val (.int (Int32.ofNat (min a b))), .val (.int (Int32.ofNat (max a b))), .val (.int (Int32.ofNat r))] [])) _
      refine XS.aload Xr18.here hx rfl (hb hby at_171) rfl rfl ?_
      show Steps p.tables e below (Tr18.setTop (mkF m 173 #[.val (.int p0), .val (.long p1), .second, .val (.int p2), .val (.int p3), .val (.ref br1), .val (.int (Int32.ofNat a)), .val (.int (Int32.ofNat b)), .val (.int (Int32.ofNat (min a b))), .val (.int (Int32.ofNat (max a b))), .val (.int (Int32.ofNat r))] [(.ref br1)])) _
      refine XS.iconst Xr18.here hx rfl (hb hby at_173) ?_
      show Steps p.tables e below (Tr18.setTop (mkF m 174 #[.val (.int p0), .val (.long p1), .second, .val (.int p2), .val (.int p3), .val (.ref br1), .val (.int (Int32.ofNat a)), .val (.int (Int32.ofNat b)), .val (.int (Int32.ofNat (min a b))), .val (.int (Int32.ofNat (max a b))), .val (.int (Int32.ofNat r))] [(.int (4 : Int32)), (.ref br1)])) _
      refine XS.iload Xr18.here hx rfl (hb hby at_174) rfl ?_
      show Steps p.tables e below (Tr18.setTop (mkF m 176 #[.val (.int p0), .val (.long p1), .second, .val (.int p2), .val (.int p3), .val (.ref br1), .val (.int (Int32.ofNat a)), .val (.int (Int32.ofNat b)), .val (.int (Int32.ofNat (min a b))), .val (.int (Int32.ofNat (max a b))), .val (.int (Int32.ofNat r))] [(.int (Int32.ofNat (min a b))), (.int (4 : Int32)), (.ref br1)])) _
      refine XS.iload Xr18.here hx rfl (hb hby at_176) rfl ?_
      show Steps p.tables e below (Tr18.setTop (mkF m 178 #[.val (.int p0), .val (.long p1), .second, .val (.int p2), .val (.int p3), .val (.ref br1), .val (.int (Int32.ofNat a)), .val (.int (Int32.ofNat b)), .val (.int (Int32.ofNat (min a b))), .val (.int (Int32.ofNat (max a b))), .val (.int (Int32.ofNat r))] [(.int (Int32.ofNat r)), (.int (Int32.ofNat (min a b))), (.int (4 : Int32)), (.ref br1)])) _
      refine str19 _ ?_
      show Steps p.tables e below (Tr19.setTop (mkF m 181 #[.val (.int p0), .val (.long p1), .second, .val (.int p2), .val (.int p3), .val (.ref br1), .val (.int (Int32.ofNat a)), .val (.int (Int32.ofNat b)), .val (.int (Int32.ofNat (min a b))), .val (.int (Int32.ofNat (max a b))), .val (.int (Int32.ofNat r))] [(.int (1 : Int32))])) _
      refine XS.ifYes Xr19.here hx rfl (pc0 := 181) (pc' := 186) rfl (hb hby at_181) rfl ((if0 _ _).trans (feq (by decide : ¬ ((1 : Int32) = (0 : Int32)))).2) (by decide) (by decide) ?_
      show Steps p.tables e below (Tr19.setTop (mkF m 186 #[.val (.int p0), .val (.long p1), .second, .val (.int p2), .val (.int p3), .val (.ref br1), .val (.int (Int32.ofNat a)), .val (.int (Int32.ofNat b)), .val (.int (Int32.ofNat (min a b))), .val (.int (Int32.ofNat (max a b))), .val (.int (Int32.ofNat r))] [])) _
      refine XS.iload Xr19.here hx rfl (hb hby at_186) rfl ?_
      show Steps p.tables e below (Tr19.setTop (mkF m 188 #[.val (.int p0), .val (.long p1), .second, .val (.int p2), .val (.int p3), .val (.ref br1), .val (.int (Int32.ofNat a)), .val (.int (Int32.ofNat b)), .val (.int (Int32.ofNat (min a b))), .val (.int (Int32.ofNat (max a b))), .val (.int (Int32.ofNat r))] [(.int (Int32.ofNat r))])) _
      refine XS.iload Xr19.here hx rfl (hb hby at_188) rfl ?_
      show Steps p.tables e below (Tr19.setTop (mkF m 190 #[.val (.int p0), .val (.long p1), .second, .val (.int p2), .val (.int p3), .val (.ref br1), .val (.int (Int32.ofNat a)), .val (.int (Int32.ofNat b)), .val (.int (Int32.ofNat (min a b))), .val (.int (Int32.ofNat (max a b))), .val (.int (Int32.ofNat r))] [(.int (Int32.ofNat (max a b))), (.int (Int32.ofNat r))])) _
      refine XS.icmpNo Xr19.here hx rfl (hb hby at_190) rfl (feq (fun q => hc ((own_inj (by omega) (by omega)).mp q))).1 ?_
      show Steps p.tables e below (Tr19.setTop (mkF m 193 #[.val (.int p0), .val (.long p1), .second, .val (.int p2), .val (.int p3), .val (.ref br1), .val (.int (Int32.ofNat a)), .val (.int (Int32.ofNat b)), .val (.int (Int32.ofNat (min a b))), .val (.int (Int32.ofNat (max a b))), .val (.int (Int32.ofNat r))] [])) _
      refine XS.aload Xr19.here hx rfl (hb hby at_193) rfl rfl ?_
      show Steps p.tables e below (Tr19.setTop (mkF m 195 #[.val (.int p0), .val (.long p1), .second, .val (.int p2), .val (.int p3), .val (.ref br1), .val (.int (Int32.ofNat a)), .val (.int (Int32.ofNat b)), .val (.int (Int32.ofNat (min a b))), .val (.int (Int32.ofNat (max a b))), .val (.int (Int32.ofNat r))] [(.ref br1)])) _
      refine XS.iload Xr19.here hx rfl (hb hby at_195) rfl ?_
      show Steps p.tables e below (Tr19.setTop (mkF m 197 #[.val (.int p0), .val (.long p1), .second, .val (.int p2), .val (.int p3), .val (.ref br1), .val (.int (Int32.ofNat a)), .val (.int (Int32.ofNat b)), .val (.int (Int32.ofNat (min a b))), .val (.int (Int32.ofNat (max a b))), .val (.int (Int32.ofNat r))] [(.int (Int32.ofNat r)), (.ref br1)])) _
      refine XS.iload Xr19.here hx rfl (hb hby at_197) rfl ?_
      show Steps p.tables e below (Tr19.setTop (mkF m 199 #[.val (.int p0), .val (.long p1), .second, .val (.int p2), .val (.int p3), .val (.ref br1), .val (.int (Int32.ofNat a)), .val (.int (Int32.ofNat b)), .val (.int (Int32.ofNat (min a b))), .val (.int (Int32.ofNat (max a b))), .val (.int (Int32.ofNat r))] [(.int (Int32.ofNat (max a b))), (.int (Int32.ofNat r)), (.ref br1)])) _
      refine str20 _ ?_
      show Steps p.tables e below (Tr20.setTop (mkF m 202 #[.val (.int p0), .val (.long p1), .second, .val (.int p2), .val (.int p3), .val (.ref br1), .val (.int (Int32.ofNat a)), .val (.int (Int32.ofNat b)), .val (.int (Int32.ofNat (min a b))), .val (.int (Int32.ofNat (max a b))), .val (.int (Int32.ofNat r))] [(.int (0 : Int32))])) _
      refine XS.ifNo Xr20.here hx rfl (hb hby at_202) rfl ((if0 _ _).trans (teq (rfl : (0 : Int32) = (0 : Int32))).2) ?_
      show Steps p.tables e below (Tr20.setTop (mkF m 205 #[.val (.int p0), .val (.long p1), .second, .val (.int p2), .val (.int p3), .val (.ref br1), .val (.int (Int32.ofNat a)), .val (.int (Int32.ofNat b)), .val (.int (Int32.ofNat (min a b))), .val (.int (Int32.ofNat (max a b))), .val (.int (Int32.ofNat r))] [])) _
      refine XS.iconst Xr20.here hx rfl (hb hby at_205) ?_
      show Steps p.tables e below (Tr20.setTop (mkF m 206 #[.val (.int p0), .val (.long p1), .second, .val (.int p2), .val (.int p3), .val (.ref br1), .val (.int (Int32.ofNat a)), .val (.int (Int32.ofNat b)), .val (.int (Int32.ofNat (min a b))), .val (.int (Int32.ofNat (max a b))), .val (.int (Int32.ofNat r))] [(.int (1 : Int32))])) _
      refine XS.goto Xr20.here hx rfl (pc0 := 206) (pc' := 210) rfl (hb hby at_206) (by decide) (by decide) ?_
      show Steps p.tables e below (Tr20.setTop (mkF m 210 #[.val (.int p0), .val (.long p1), .second, .val (.int p2), .val (.int p3), .val (.ref br1), .val (.int (Int32.ofNat a)), .val (.int (Int32.ofNat b)), .val (.int (Int32.ofNat (min a b))), .val (.int (Int32.ofNat (max a b))), .val (.int (Int32.ofNat r))] [(.int (1 : Int32))])) _
      exact retN Xr20 hx (t := .boolean) Bd.returns (by simp) (hb hby at_210) hr
    · show Q_law Z p0 p1 p2 p3 h0 n0 _ Tr20.heap _
      rw [er20]
      exact ⟨rfl, Nr20⟩
set_option maxRecDepth 65536 in
set_option maxHeartbeats 40000000 in
theorem comes_1 {Post : Tables → Env → Array Value → State → Outcome → State → Prop} (hpost : ∀ tb e args s v u, (limb_1_1.after args s (.returned v) u = true ∧ limb_1_2.after args s (.returned v) u = true ∧ True) → FrameEnd s (.returned v) u (Jvm.fieldLocs frame_1_writes args s ++ Jvm.arrayLocs frame_1_arrays args s ++ Jvm.staticLocs frame_1_statics s) 16 128 → Post tb e args s (.returned v) u) :
    ArmFor flags0 classFile x code maxLocals ret World_1 tables_1 room_1 Calls_1 rest_1 Pre_1 Post := by
  intro l hfl _ _ p e ha hc hk s m args below hf hA hF happ hP
  obtain ⟨hcalls, hrest, hpre⟩ := hP
  obtain ⟨-, -, -, hnamed, -, -, -, hat⟩ := (Spec.applies_iff hf).mp happ
  obtain ⟨hg, hn⟩ := and_e (Cond.before_iff.mp (show (Jvm.Cond.and given_1 narrow_1).before args s = true from hpre))
  obtain ⟨hcount, hq0⟩ := and_e hg
  obtain ⟨ha0, hq1⟩ := and_e hq0
  obtain ⟨ha1, hq2⟩ := and_e hq1
  obtain ⟨ha2, hq3⟩ := and_e hq2
  have ha3 := hq3
  obtain ⟨w0, w1, w2, w3, rfl⟩ : ∃ w0 w1 w2 w3 : Value, args = #[w0, w1, w2, w3] := by
    have hs : args.size = 4 := by simpa [Cond.value, given_1] using hcount
    obtain ⟨L⟩ := args
    match L, hs with
    | [w0, w1, w2, w3], _ => exact ⟨w0, w1, w2, w3, rfl⟩
  have hw := fun d (hd : d ∈ tables_1) => atoms_spec (ws := Jvm.Cond.code x code maxLocals ret :: tables_1) hat d (List.mem_cons_of_mem _ hd)
  have hfit : Fit s := fun {y c} hc i hi => by
    obtain ⟨ha, rfl⟩ := Array.getElem?_eq_some_iff.mp hc
    have q := List.all_eq_true.mp ((Array.all_eq_true_iff_forall_mem.mp hF) _ (Array.getElem_mem ha)) i (List.mem_range.mpr hi)
    simpa [Array.getElem?_eq_getElem hi] using q
  obtain ⟨i0, ei0⟩ := is_v ha0
  obtain rfl : w0 = (.int i0) := Option.some.inj ei0
  obtain ⟨i1, ei1⟩ := isL_v ha1
  obtain rfl : w1 = (.long i1) := Option.some.inj ei1
  obtain ⟨i2, ei2⟩ := is_v ha2
  obtain rfl : w2 = (.int i2) := Option.some.inj ei2
  obtain ⟨i3, ei3⟩ := is_v ha3
  obtain rfl : w3 = (.int i3) := Option.some.inj ei3
  obtain ⟨n, o, h1, h2, h3, _, L, rfl, ⟨rfl, N⟩, hq⟩ := rm_law l s _ hw tables_1 i0 i1 i2 i3  s.heap s.heap.size (Nat.le_refl _)  p e ha hc hk s m _ below hf ((Spec.applies_iff_loose hf).mp happ).1 ⟨rfl, State.Warmed39.refl s, rfl⟩ trivial
  refine ⟨n, _, h1, h2, h3, hpost _ _ _ _ _ _ ⟨Cond.after_iff.mpr rfl, Cond.after_iff.mpr (eq_i res_at (Term.int_eval (1)) rfl), trivial⟩ ⟨hq.1, hq.2.1, (hq.2.2.sift fun y hy => Or.inr (N y hy)).mono (by decide) (by decide)⟩⟩
theorem main_1_1 : Claimed_1_1 := comes_1 fun _ _ _ _ _ _ h hF => ⟨h.1, hF⟩
theorem main_1_2 : Claimed_1_2 := comes_1 fun _ _ _ _ _ _ h hF => ⟨h.2.1, hF⟩
end Jvm.Pilot.@@N@@
namespace Jvm.Pilot.@@N@@
open Jvm Jvm.ClassFile Sem Op Lib Jvm.Free Jvm.Stand Jvm.Pilot.@@N@@.Jvm.D
/-! MADE BY PROGRAM (witnessworld.py) out of the Statement's table words and the real class files: 10 classes; the members and pool entries that the words name. The judged class is class 1, her method 1. -/
namespace start1
open Jvm.ClassFile
def u (s : String) : CpInfo := .utf8 (stringToUtf16 s)
/-- a pool by its gaps: so many unusable entries, then the entry; so many at the end -/
def gap : Nat → List CpInfo → List CpInfo
  | 0, r => r
  | n + 1, r => .unusable :: gap n r
def poolList (es : List (Nat × CpInfo)) (last : Nat) : List CpInfo := es.foldr (fun e r => gap e.1 (e.2 :: r)) (gap last [])
def pool (es : List (Nat × CpInfo)) (last : Nat) : Array CpInfo := ⟨poolList es last⟩
def fileOf (pool : Array CpInfo) (this : Nat) (attrs : Array Attribute := #[]) (ms : Array MethodInfo := #[]) (fl : Nat := 33) (sup : Nat := 0) (ifs : Array Nat := #[]) (fds : Array FieldInfo := #[]) : ClassFile where
  minorVersion := 0
  majorVersion := 65
  constantPool := pool
  accessFlags := fl
  thisClass := this
  superClass := sup
  interfaces := ifs
  fields := fds
  methods := ms
  attributes := attrs
def plain (name : String) (sup : Option ClassId) : Class where
  name := name
  kind := .ordinary
  loader := none
  accessFlags := 33
  super := sup
  interfaces := #[]
  cf := none
  fields := #[]
  methods := #[]
  instanceTypes := #[]
  staticTypes := #[]
  resolved := #[]
  callSites := []
  init := .initialized
  statics := none
  mirror := none

def pool0 : Array CpInfo := pool [(5, u "<init>"), (0, u "()V"), (1, .class_ 10), (1, u "java/lang/Object")] 113

def k0m0 : Method := { name := "<init>", desc := "()V", sig := { parameters := [], returnType := none }, accessFlags := 1, code := none }
/-- java/lang/Object -/
def k0 : Class := { plain "java/lang/Object" none with
  accessFlags := 33
  interfaces := #[]
  cf := some (fileOf pool0 8 #[] #[{ accessFlags := 1, nameIndex := 5, descriptorIndex := 6, attributes := #[] }] 33 0 #[] #[])
  fields := #[]
  methods := #[k0m0]
  instanceTypes := #[]
  staticTypes := #[]
  resolved := Array.replicate 124 none
  statics := none }

def pool1 : Array CpInfo := pool [(2, .class_ 4), (1, u "java/lang/Object"), (0, u "<init>"), (0, u "()V"), (0, .methodref 8 9), (0, .class_ 10), (0, .nameAndType 11 12), (0, u "com/example/elgin/elgin/broker/RequestHeadSkipEmptyLinesPinLaw"), (0, u "pick"), (0, u "(IJI)B"), (0, .integer 2147483647), (0, .methodref 15 16), (0, .class_ 17), (0, .nameAndType 18 19), (0, u "java/lang/Math"), (0, u "min"), (0, u "(II)I"), (0, .methodref 15 21), (0, .nameAndType 22 19), (0, u "max"), (0, .methodref 24 25), (0, .class_ 26), (0, .nameAndType 27 28), (0, u "com/example/elgin/elgin/broker/RequestHead"), (0, u "skipEmptyLines"), (0, u "([BII)I"), (0, .methodref 8 30), (0, .nameAndType 31 32), (0, u "inEmptyLines"), (0, u "([BIII)Z"), (0, .methodref 8 34), (0, .nameAndType 35 36), (0, u "startsEmptyLine"), (0, u "([BII)Z"), (2, u "law"), (0, u "(IJII)Z")] 5

def k1m0 : Method := { name := "<init>", desc := "()V", sig := { parameters := [], returnType := none }, accessFlags := 1, code := none }
def k1c1 : Code := { maxStack := 6, maxLocals := 11, code := code, exceptionTable := #[], attributes := #[] }
def k1m1 : Method := { name := "law", desc := "(IJII)Z", sig := { parameters := [.int, .long, .int, .int], returnType := some .boolean }, accessFlags := 9, code := some k1c1 }
def k1c2 : Code := { maxStack := 4, maxLocals := 5, code := method_3_code, exceptionTable := #[], attributes := #[] }
def k1m2 : Method := { name := "pick", desc := "(IJI)B", sig := { parameters := [.int, .long, .int], returnType := some .byte }, accessFlags := 10, code := some k1c2 }
def k1c3 : Code := { maxStack := 3, maxLocals := 4, code := method_4_code, exceptionTable := #[], attributes := #[] }
def k1m3 : Method := { name := "inEmptyLines", desc := "([BIII)Z", sig := { parameters := [(.array .byte), .int, .int, .int], returnType := some .boolean }, accessFlags := 10, code := some k1c3 }
def k1c4 : Code := { maxStack := 3, maxLocals := 3, code := method_5_code, exceptionTable := #[], attributes := #[] }
def k1m4 : Method := { name := "startsEmptyLine", desc := "([BII)Z", sig := { parameters := [(.array .byte), .int, .int], returnType := some .boolean }, accessFlags := 10, code := some k1c4 }
/-- com/example/elgin/elgin/broker/RequestHeadSkipEmptyLinesPinLaw -/
def k1 : Class := { plain "com/example/elgin/elgin/broker/RequestHeadSkipEmptyLinesPinLaw" (some 0) with
  accessFlags := 49
  interfaces := #[]
  cf := some (fileOf pool1 8 #[] #[{ accessFlags := 1, nameIndex := 5, descriptorIndex := 6, attributes := #[] }, { accessFlags := 9, nameIndex := 39, descriptorIndex := 40, attributes := #[] }, { accessFlags := 10, nameIndex := 11, descriptorIndex := 12, attributes := #[] }, { accessFlags := 10, nameIndex := 31, descriptorIndex := 32, attributes := #[] }, { accessFlags := 10, nameIndex := 35, descriptorIndex := 36, attributes := #[] }] 49 2 #[] #[])
  fields := #[]
  methods := #[k1m0, k1m1, k1m2, k1m3, k1m4]
  instanceTypes := #[]
  staticTypes := #[]
  resolved := Array.replicate 46 none
  statics := none }

def pool2 : Array CpInfo := pool [(1, .class_ 2), (0, u "java/lang/Math"), (1, .class_ 6), (1, u "java/lang/Object"), (0, u "<init>"), (0, u "()V"), (89, .class_ 100), (1, u "java/lang/Math$RandomNumberGeneratorHolder"), (71, u "negativeZeroFloatBits"), (0, u "J"), (2, u "negativeZeroDoubleBits"), (21, u "max"), (2, u "min"), (43, u "$assertionsDisabled"), (0, u "Z"), (88, u "(II)I"), (2, u "twoToTheDoubleScaleDown"), (0, u "D"), (4, u "twoToTheDoubleScaleUp"), (9, u "E"), (3, u "PI"), (2, u "TAU"), (2, u "DEGREES_TO_RADIANS"), (0, u "RADIANS_TO_DEGREES")] 94

def k2m0 : Method := { name := "<init>", desc := "()V", sig := { parameters := [], returnType := none }, accessFlags := 2, code := none }
def k2c1 : Code := { maxStack := 2, maxLocals := 2, code := jdk_29_method_65_code, exceptionTable := #[], attributes := #[] }
def k2m1 : Method := { name := "max", desc := "(II)I", sig := { parameters := [.int, .int], returnType := some .int }, accessFlags := 9, code := some k2c1 }
def k2c2 : Code := { maxStack := 2, maxLocals := 2, code := jdk_29_method_69_code, exceptionTable := #[], attributes := #[] }
def k2m2 : Method := { name := "min", desc := "(II)I", sig := { parameters := [.int, .int], returnType := some .int }, accessFlags := 9, code := some k2c2 }
/-- java/lang/Math -/
def k2 : Class := { plain "java/lang/Math" (some 0) with
  accessFlags := 49
  interfaces := #[]
  cf := some (fileOf pool2 1 #[.nestMembers #[98]] #[{ accessFlags := 2, nameIndex := 7, descriptorIndex := 8, attributes := #[] }, { accessFlags := 9, nameIndex := 198, descriptorIndex := 335, attributes := #[] }, { accessFlags := 9, nameIndex := 201, descriptorIndex := 335, attributes := #[] }] 49 4 #[] #[{ accessFlags := 25, nameIndex := 354, descriptorIndex := 339, attributes := #[] }, { accessFlags := 25, nameIndex := 358, descriptorIndex := 339, attributes := #[] }, { accessFlags := 25, nameIndex := 361, descriptorIndex := 339, attributes := #[] }, { accessFlags := 26, nameIndex := 364, descriptorIndex := 339, attributes := #[] }, { accessFlags := 26, nameIndex := 365, descriptorIndex := 339, attributes := #[] }, { accessFlags := 26, nameIndex := 172, descriptorIndex := 173, attributes := #[] }, { accessFlags := 26, nameIndex := 176, descriptorIndex := 173, attributes := #[] }, { accessFlags := 8, nameIndex := 344, descriptorIndex := 339, attributes := #[] }, { accessFlags := 8, nameIndex := 338, descriptorIndex := 339, attributes := #[] }, { accessFlags := 4120, nameIndex := 245, descriptorIndex := 246, attributes := #[] }])
  fields := #[{ name := "E", type := .double, accessFlags := 25, slot := 0, constantValue := 0 }, { name := "PI", type := .double, accessFlags := 25, slot := 1, constantValue := 0 }, { name := "TAU", type := .double, accessFlags := 25, slot := 2, constantValue := 0 }, { name := "DEGREES_TO_RADIANS", type := .double, accessFlags := 26, slot := 3, constantValue := 0 }, { name := "RADIANS_TO_DEGREES", type := .double, accessFlags := 26, slot := 4, constantValue := 0 }, { name := "negativeZeroFloatBits", type := .long, accessFlags := 26, slot := 5, constantValue := 0 }, { name := "negativeZeroDoubleBits", type := .long, accessFlags := 26, slot := 6, constantValue := 0 }, { name := "twoToTheDoubleScaleUp", type := .double, accessFlags := 8, slot := 7, constantValue := 0 }, { name := "twoToTheDoubleScaleDown", type := .double, accessFlags := 8, slot := 8, constantValue := 0 }, { name := "$assertionsDisabled", type := .boolean, accessFlags := 4120, slot := 9, constantValue := 0 }]
  methods := #[k2m0, k2m1, k2m2]
  instanceTypes := #[]
  staticTypes := #[.double, .double, .double, .double, .double, .long, .long, .double, .double, .boolean]
  resolved := Array.replicate 460 none
  statics := none }

def pool3 : Array CpInfo := pool [(2, .class_ 4), (1, u "java/lang/Object"), (3, .class_ 10), (1, u "com/example/elgin/elgin/broker/RequestHead"), (0, u "method"), (0, u "Ljava/lang/String;"), (2, u "target"), (2, u "rawPath"), (2, u "rawQuery"), (1, .class_ 25), (1, u "com/example/elgin/elgin/broker/RequestHead$Framing"), (0, u "contentLength"), (0, u "J"), (3, u "chunked"), (0, u "Z"), (3, u "keepAlive"), (3, u "expectsContinue"), (179, u "MAX_BYTES"), (0, u "I"), (2, u "TOKEN_SYMBOLS"), (0, u "TARGET_SYMBOLS"), (2, u "skipEmptyLines"), (0, u "([BII)I")] 52

def k3c0 : Code := { maxStack := 3, maxLocals := 4, code := prog_16_method_2_code, exceptionTable := #[], attributes := #[] }
def k3m0 : Method := { name := "skipEmptyLines", desc := "([BII)I", sig := { parameters := [(.array .byte), .int, .int], returnType := some .int }, accessFlags := 8, code := some k3c0 }
/-- com/example/elgin/elgin/broker/RequestHead -/
def k3 : Class := { plain "com/example/elgin/elgin/broker/RequestHead" (some 0) with
  accessFlags := 48
  interfaces := #[]
  cf := some (fileOf pool3 8 #[.nestMembers #[23]] #[{ accessFlags := 8, nameIndex := 228, descriptorIndex := 229, attributes := #[] }] 48 2 #[] #[{ accessFlags := 24, nameIndex := 220, descriptorIndex := 221, attributes := #[] }, { accessFlags := 26, nameIndex := 224, descriptorIndex := 12, attributes := #[] }, { accessFlags := 26, nameIndex := 225, descriptorIndex := 12, attributes := #[] }, { accessFlags := 18, nameIndex := 11, descriptorIndex := 12, attributes := #[] }, { accessFlags := 18, nameIndex := 15, descriptorIndex := 12, attributes := #[] }, { accessFlags := 18, nameIndex := 18, descriptorIndex := 12, attributes := #[] }, { accessFlags := 18, nameIndex := 21, descriptorIndex := 12, attributes := #[] }, { accessFlags := 18, nameIndex := 26, descriptorIndex := 27, attributes := #[] }, { accessFlags := 18, nameIndex := 31, descriptorIndex := 32, attributes := #[] }, { accessFlags := 18, nameIndex := 36, descriptorIndex := 32, attributes := #[] }, { accessFlags := 18, nameIndex := 40, descriptorIndex := 32, attributes := #[] }])
  fields := #[{ name := "MAX_BYTES", type := .int, accessFlags := 24, slot := 0, constantValue := 0 }, { name := "TOKEN_SYMBOLS", type := (.object "java/lang/String"), accessFlags := 26, slot := 1, constantValue := 0 }, { name := "TARGET_SYMBOLS", type := (.object "java/lang/String"), accessFlags := 26, slot := 2, constantValue := 0 }, { name := "method", type := (.object "java/lang/String"), accessFlags := 18, slot := 0, constantValue := 0 }, { name := "target", type := (.object "java/lang/String"), accessFlags := 18, slot := 1, constantValue := 0 }, { name := "rawPath", type := (.object "java/lang/String"), accessFlags := 18, slot := 2, constantValue := 0 }, { name := "rawQuery", type := (.object "java/lang/String"), accessFlags := 18, slot := 3, constantValue := 0 }, { name := "contentLength", type := .long, accessFlags := 18, slot := 4, constantValue := 0 }, { name := "chunked", type := .boolean, accessFlags := 18, slot := 5, constantValue := 0 }, { name := "keepAlive", type := .boolean, accessFlags := 18, slot := 6, constantValue := 0 }, { name := "expectsContinue", type := .boolean, accessFlags := 18, slot := 7, constantValue := 0 }]
  methods := #[k3m0]
  instanceTypes := #[(.object "java/lang/String"), (.object "java/lang/String"), (.object "java/lang/String"), (.object "java/lang/String"), .long, .boolean, .boolean, .boolean]
  staticTypes := #[.int, (.object "java/lang/String"), (.object "java/lang/String")]
  resolved := Array.replicate 282 none
  statics := none }

def pool4 : Array CpInfo := pool [(1, u "java/lang/Cloneable"), (0, .class_ 1), (0, u "java/lang/Object"), (0, .class_ 3)] 3

/-- java/lang/Cloneable -/
def k4 : Class := { plain "java/lang/Cloneable" (some 0) with
  accessFlags := 1537
  interfaces := #[]
  cf := some (fileOf pool4 2 #[] #[] 1537 4 #[] #[])
  fields := #[]
  methods := #[]
  instanceTypes := #[]
  staticTypes := #[]
  resolved := Array.replicate 8 none
  statics := none }

def pool5 : Array CpInfo := pool [(1, u "java/io/Serializable"), (0, .class_ 1), (0, u "java/lang/Object"), (0, .class_ 3)] 3

/-- java/io/Serializable -/
def k5 : Class := { plain "java/io/Serializable" (some 0) with
  accessFlags := 1537
  interfaces := #[]
  cf := some (fileOf pool5 2 #[] #[] 1537 4 #[] #[])
  fields := #[]
  methods := #[]
  instanceTypes := #[]
  staticTypes := #[]
  resolved := Array.replicate 8 none
  statics := none }

/-- the primitive byte -/
def k6 : Class := { plain "byte" none with kind := .primitive 'B', accessFlags := 0x411 }
/-- [B -/
def k7 : Class := { plain "[B" (some 0) with kind := .array 6 .byte, interfaces := #[4, 5], accessFlags := 1041 }

/-- the primitive int -/
def k8 : Class := { plain "int" none with kind := .primitive 'I', accessFlags := 0x411 }
/-- [I -/
def k9 : Class := { plain "[I" (some 0) with kind := .array 8 .int, interfaces := #[4, 5], accessFlags := 1041 }

def heap : Heap := #[]
def classes : Array Class := #[k0, k1, k2, k3, k4, k5, k6, k7, k8, k9]
def interned : List (Array UInt16 × Addr) := []
def slotsUsed : Nat := 0
def theMethod : MethodId := ⟨1, 1⟩
def args0 : Array Value := #[.int 5, .long 7, .int 3, .int 2]
def aboutOver (below : List Frame) : State where
  vm := { classes := classes, interned := interned.toArray }
  heap := heap
  slotsUsed := slotsUsed
  threads := #[{ frames := .invoking theMethod args0 :: below }]
def below0 : List Frame := [.native { method := ⟨0, 0⟩, args := #[] }]
def about1 : State := aboutOver below0
def p0 : Program := .bare "" "" ""
def e0 : Env := launch0.env 0 0 0
theorem w_frames : about1.frames = Frame.invoking theMethod args0 :: below0 := rfl
set_option maxRecDepth 65536 in
theorem w_args : argsFit about1.vm theMethod args0 = true := by decide +kernel
set_option maxRecDepth 65536 in
theorem w_heap : heapFits about1 = true := by decide +kernel
set_option maxRecDepth 65536 in
theorem w_runnable : about1.curStatus? = some .runnable := by decide +kernel
set_option maxRecDepth 65536 in
theorem w_alone : about1.alone = true := by decide +kernel
set_option maxRecDepth 65536 in
theorem w_named : about1.methodNamed? x = some theMethod := by decide +kernel
set_option maxRecDepth 65536 in
theorem w_hears : about1.hears theMethod below0 = true := by decide +kernel
set_option maxRecDepth 65536 in
theorem w_ripe : about1.ripe theMethod args0 below0 = true := by decide +kernel
theorem w_running : about1.status = .running := rfl
set_option maxRecDepth 65536 in
theorem w_room : about1.hasRoom e0.platform room_1 = true :=
  launch0.hasRoom_least _ room_1 (by decide +kernel) (by decide +kernel) (by decide +kernel) (by decide +kernel) (by decide +kernel) (by decide +kernel)
theorem allAtoms_all (ts : List Jvm.Cond) (a : Array Jvm.Value) (st : Jvm.State) : (allAtoms ts).before a st = ts.all (fun c => c.before a st) := by
  induction ts with
  | nil => rfl
  | cons c t ih =>
    show (Jvm.Cond.and c (allAtoms t)).before a st = _
    rw [Jvm.Cond.before_and, ih, List.all_cons]
def words1 : List Jvm.Cond := Jvm.Cond.code x code maxLocals ret :: tables_1
/-- a 'code' word, met by the world's own term for the bytes: nothing is compared byte by byte -/
theorem code_word {y : MethodName} {bytes : ByteArray} {mx : Nat} {rt : Option FieldType} {a : Array Value} {s : State} {m : MethodId} {meth : Method} {c : Code} (h1 : s.methodNamed? y = some m) (h2 : s.vm.method? m = some meth) (h3 : meth.code = some c) (h4 : c.code = bytes)
    (h5 : (c.maxLocals == mx && c.exceptionTable.isEmpty && decide (c.maxStack ≤ mostOperands) && decide (meth.sig.returnType = rt) && !meth.locks && decide (parseMethodDescriptor y.desc = some meth.sig)) = true) : (Jvm.Cond.code y bytes mx rt).before a s = true := by
  simp only [Bool.and_eq_true, beq_iff_eq, Bool.not_eq_true', decide_eq_true_eq] at h5
  obtain ⟨⟨⟨⟨⟨g1, g2⟩, g3⟩, g4⟩, g5⟩, g6⟩ := h5
  simp [Cond.before, Cond.holds, Cond.value, h1, h2, h3, h4, g1, g2, g3, g4, g5, g6]
def isCode : Jvm.Cond → Bool
  | .code _ _ _ _ => true
  | _ => false
theorem all_split {L : List Jvm.Cond} {P : Jvm.Cond → Bool} (h1 : L.all (fun c => isCode c || P c) = true) (h2 : ∀ c ∈ L.filter isCode, P c = true) : L.all P = true := by
  refine List.all_eq_true.mpr fun c hc => ?_
  have h := List.all_eq_true.mp h1 c hc
  rcases Bool.eq_false_or_eq_true (isCode c) with hi | hi
  · exact h2 c (List.mem_filter.mpr ⟨hc, hi⟩)
  · simpa [hi] using h
set_option maxRecDepth 65536 in
theorem w_c0 : (Jvm.Cond.code x code maxLocals ret).before args0 about1 = true := code_word (m := ⟨1, 1⟩) (meth := k1m1) (c := k1c1) (by decide +kernel) rfl rfl rfl (by decide +kernel)
set_option maxRecDepth 65536 in
theorem w_c1 : (Jvm.Cond.code ({ cls := "com/example/elgin/elgin/broker/RequestHeadSkipEmptyLinesPinLaw", name := "pick", desc := "(IJI)B" } : Jvm.MethodName) method_3_code (5 : Nat) (Option.some Jvm.ClassFile.FieldType.byte)).before args0 about1 = true := code_word (m := ⟨1, 2⟩) (meth := k1m2) (c := k1c2) (by decide +kernel) rfl rfl rfl (by decide +kernel)
set_option maxRecDepth 65536 in
theorem w_c2 : (Jvm.Cond.code ({ cls := "java/lang/Math", name := "min", desc := "(II)I" } : Jvm.MethodName) jdk_29_method_69_code (2 : Nat) (Option.some Jvm.ClassFile.FieldType.int)).before args0 about1 = true := code_word (m := ⟨2, 2⟩) (meth := k2m2) (c := k2c2) (by decide +kernel) rfl rfl rfl (by decide +kernel)
set_option maxRecDepth 65536 in
theorem w_c3 : (Jvm.Cond.code ({ cls := "java/lang/Math", name := "max", desc := "(II)I" } : Jvm.MethodName) jdk_29_method_65_code (2 : Nat) (Option.some Jvm.ClassFile.FieldType.int)).before args0 about1 = true := code_word (m := ⟨2, 1⟩) (meth := k2m1) (c := k2c1) (by decide +kernel) rfl rfl rfl (by decide +kernel)
set_option maxRecDepth 65536 in
theorem w_c4 : (Jvm.Cond.code ({ cls := "com/example/elgin/elgin/broker/RequestHead", name := "skipEmptyLines", desc := "([BII)I" } : Jvm.MethodName) prog_16_method_2_code (4 : Nat) (Option.some Jvm.ClassFile.FieldType.int)).before args0 about1 = true := code_word (m := ⟨3, 0⟩) (meth := k3m0) (c := k3c0) (by decide +kernel) rfl rfl rfl (by decide +kernel)
set_option maxRecDepth 65536 in
theorem w_c5 : (Jvm.Cond.code ({ cls := "com/example/elgin/elgin/broker/RequestHeadSkipEmptyLinesPinLaw", name := "inEmptyLines", desc := "([BIII)Z" } : Jvm.MethodName) method_4_code (4 : Nat) (Option.some Jvm.ClassFile.FieldType.boolean)).before args0 about1 = true := code_word (m := ⟨1, 3⟩) (meth := k1m3) (c := k1c3) (by decide +kernel) rfl rfl rfl (by decide +kernel)
set_option maxRecDepth 65536 in
theorem w_c6 : (Jvm.Cond.code ({ cls := "com/example/elgin/elgin/broker/RequestHeadSkipEmptyLinesPinLaw", name := "startsEmptyLine", desc := "([BII)Z" } : Jvm.MethodName) method_5_code (3 : Nat) (Option.some Jvm.ClassFile.FieldType.boolean)).before args0 about1 = true := code_word (m := ⟨1, 4⟩) (meth := k1m4) (c := k1c4) (by decide +kernel) rfl rfl rfl (by decide +kernel)
def codes1 : List Jvm.Cond := [Jvm.Cond.code x code maxLocals ret, Jvm.Cond.code ({ cls := "com/example/elgin/elgin/broker/RequestHeadSkipEmptyLinesPinLaw", name := "pick", desc := "(IJI)B" } : Jvm.MethodName) method_3_code (5 : Nat) (Option.some Jvm.ClassFile.FieldType.byte), Jvm.Cond.code ({ cls := "java/lang/Math", name := "min", desc := "(II)I" } : Jvm.MethodName) jdk_29_method_69_code (2 : Nat) (Option.some Jvm.ClassFile.FieldType.int), Jvm.Cond.code ({ cls := "java/lang/Math", name := "max", desc := "(II)I" } : Jvm.MethodName) jdk_29_method_65_code (2 : Nat) (Option.some Jvm.ClassFile.FieldType.int), Jvm.Cond.code ({ cls := "com/example/elgin/elgin/broker/RequestHead", name := "skipEmptyLines", desc := "([BII)I" } : Jvm.MethodName) prog_16_method_2_code (4 : Nat) (Option.some Jvm.ClassFile.FieldType.int), Jvm.Cond.code ({ cls := "com/example/elgin/elgin/broker/RequestHeadSkipEmptyLinesPinLaw", name := "inEmptyLines", desc := "([BIII)Z" } : Jvm.MethodName) method_4_code (4 : Nat) (Option.some Jvm.ClassFile.FieldType.boolean), Jvm.Cond.code ({ cls := "com/example/elgin/elgin/broker/RequestHeadSkipEmptyLinesPinLaw", name := "startsEmptyLine", desc := "([BII)Z" } : Jvm.MethodName) method_5_code (3 : Nat) (Option.some Jvm.ClassFile.FieldType.boolean)]
set_option maxRecDepth 65536 in
theorem codes_eq : words1.filter isCode = codes1 := rfl
theorem w_codes : ∀ c ∈ words1.filter isCode, c.before args0 about1 = true := by
  rw [codes_eq]
  intro c hc
  simp only [codes1, List.mem_cons, List.not_mem_nil, or_false] at hc
  rcases hc with rfl | rfl | rfl | rfl | rfl | rfl | rfl
  · exact w_c0
  · exact w_c1
  · exact w_c2
  · exact w_c3
  · exact w_c4
  · exact w_c5
  · exact w_c6
set_option maxRecDepth 65536 in
theorem w_t1 : words1.all (fun c => isCode c || c.before args0 about1) = true := by decide +kernel
theorem w_tables : (allAtoms (Jvm.Cond.code x code maxLocals ret :: tables_1)).before args0 about1 = true := by
  rw [allAtoms_all]
  show words1.all (fun c => c.before args0 about1) = true
  refine all_split ?_ w_codes
  rw [w_t1]
set_option maxRecDepth 65536 in
theorem w_case : (Jvm.Cond.and given_1 narrow_1).before args0 about1 = true := by decide +kernel
theorem w_applies : (headSpec (Jvm.Cond.code x code maxLocals ret :: tables_1) room_1).applies x e0.platform about1 = true :=
  (Spec.applies_iff w_frames).mpr ⟨w_running, w_runnable, w_alone, w_named, w_hears, w_ripe, w_room, w_tables⟩
theorem atStart : AtStart classFile x code maxLocals ret World_1 tables_1 room_1 Calls_1 rest_1 Pre_1 launch0 p0 e0 about1 theMethod args0 below0 :=
  ⟨lists_1, trivial, launch0.admits_env _ _ _, launch0.least_env, fairChoices_fair.cas, fairChoices_fair.clock, w_frames, w_args, w_heap, w_applies, trivial, trivial, w_case⟩
end start1
theorem witness_1 : WitnessClaimed_1 := ⟨start1.p0, start1.e0, start1.about1, start1.theMethod, start1.args0, start1.below0, start1.atStart⟩
end Jvm.Pilot.@@N@@
