import JvmDerived
import JvmDerived.Pilot.@@N@@Statement
import JvmDerived.Pilot.@@N@@Code
set_option linter.unusedVariables false
set_option linter.unusedSimpArgs false
@@BLOCK:NumsL.lean.txt@@
namespace Jvm.RoadKit
open Sem ClassFile Op Lib Jvm.Stand Jvm.Free Jvm.LawKit
section New
variable {p : Program} {l : Launch} {e : Env} {R : Room} {s : State} {m : MethodId} {args : Array Value} {below : List Frame} {meth : Method} {c : Code} {T : State} {locs : List Loc} {cells slots : Nat}
theorem retI (X : Stand p l e R s m args below meth c T locs cells slots) (hx : p.tables.exec = Jvm.exec) {pc : Nat} {Ls : Array Slot} {z : Int32} {rest : List Value} (hret : meth.sig.returnType = some .int) (hd : decode c.code pc = .ok (.ireturn, 1)) {fs : List Frame}
    (hl : ∀ (f : JFrame) (acts : List Action), f.method = m → f.locked = none → f.entered = [] → (doReturn e (T.setTop f) acts (some (.int z))).1 = T.setFrames fs) : Steps p.tables e below (T.setTop (mkF m pc Ls (.int z :: rest))) (T.setFrames fs) := by
  have hm' : T.vm.method? m = some meth := X.method'
  have hn : narrow .int (.int z) = .int z := rfl
  show Steps p.tables e below (T.setTop { method := m, pc := pc, locals := Ls, stack := _ :: rest, locked := none }) _
  jvm_step X.here [X.here.top, hx, hd, hm', hret, hn]
  first | (intro acts; rw [hl _ acts rfl rfl rfl]) | rw [hl _ _ rfl rfl rfl]
  exact Steps.refl _
end New
end Jvm.RoadKit
/- laws to paste: Road.backV (cut by pick.py; bodies as the Statement names them) -/
namespace Jvm.Pilot.@@N@@
namespace StrChars
open Jvm Sem ClassFile Op Lib Jvm.Stand Jvm.Free.XT Jvm.Free.ALB Jvm.Free.JM Jvm.Free
open Jvm.Lib.Cold (StaticIs)
/-- a char array whose places are chars -/
def Ch (a : Addr) (A : Cell) (U : State) : Prop := Arr .char a A U ∧ Typed .char A
theorem Ch.mv {a : Addr} {A : Cell} {U U' : State} (h : Ch a A U) (hal : U.vm.Alike U'.vm) (hh : U'.heap = U.heap) : Ch a A U' := ⟨h.1.mv hal hh, h.2⟩
theorem Ch.keep {a : Addr} {A : Cell} {U U' : State} (h : Ch a A U) (hal : U.vm.Alike U'.vm) (hk : U'.heap[a]? = some A) : Ch a A U' := ⟨h.1.keep hal hk, h.2⟩
/-- what place i of a char[]'s cell holds -/
def cv (A : Cell) (i : Nat) : Int32 := match A.slots[i]? with | some (.int x) => x | _ => 0
theorem Ch.get {a : Addr} {A : Cell} {U : State} (h : Ch a A U) {i : Nat} (hi : i < A.slots.size) : A.slots[i]? = some (.int (cv A i)) := by
  have e := Array.getElem?_eq_getElem hi
  have f := h.2 i _ e
  unfold cv; rw [e]
  generalize A.slots[i] = v at f
  cases v <;> simp [fits] at f ⊢
/-- the byte that i2b leaves of a char -/
def lo8 (x : Int32) : Int32 := x.toInt8.toInt32
theorem fits_lo8 (y : Int32) : fits .byte (.int (lo8 y)) = true := by
  have h1 := y.toInt8.le_toInt
  have h2 := y.toInt8.toInt_lt
  simp only [lo8, fits, Bool.and_eq_true, decide_eq_true_eq, Int32.le_iff_toInt_le, Int8.toInt_toInt32, show (-128 : Int32).toInt = -128 from by decide, show (127 : Int32).toInt = 127 from by decide]
  omega
/-- A' is A but that each place j of lo .. hi - 1 holds f j -/
def Laid (A A' : Cell) (lo hi : Nat) (f : Nat → Value) : Prop := A'.cls = A.cls ∧ A'.vm = A.vm ∧ A'.slots.size = A.slots.size ∧ ∀ i, A'.slots[i]? = if lo ≤ i ∧ i < hi then some (f i) else A.slots[i]?
theorem Laid.zero (A : Cell) (lo : Nat) (f : Nat → Value) : Laid A A lo (lo + 0) f := ⟨rfl, rfl, rfl, fun i => by rw [if_neg (by omega)]⟩
theorem Laid.step {A Ak : Cell} {lo k : Nat} {f : Nat → Value} {v : Value} (h : Laid A Ak lo k f) (hlo : lo ≤ k) (hk : k < Ak.slots.size) (hv : v = f k) : Laid A (Ak.setSlot k v) lo (k + 1) f := by
  refine ⟨h.1, h.2.1, by simpa [Cell.setSlot] using h.2.2.1, fun i => ?_⟩
  by_cases e : k = i
  · subst e; rw [Cell.slots_setSlot_self v hk, if_pos (by omega), hv]
  · rw [Cell.slots_setSlot_ne v e, h.2.2.2 i]
    by_cases q : lo ≤ i ∧ i < k
    · rw [if_pos q, if_pos (by omega)]
    · rw [if_neg q, if_neg (by omega)]
def U16 : String := "java/lang/StringUTF16"
namespace Cmp5
def yN : MethodName := ⟨"java/lang/StringUTF16", "compress", "([CI[BII)I"⟩
abbrev yB : ByteArray := jdk_52_method_21_code
theorem d0 : decode yB 0 = .ok (.iconst 0, 1) := by decide +kernel
theorem d1 : decode yB 1 = .ok (.istore 5, 2) := by decide +kernel
theorem d3 : decode yB 3 = .ok (.iload 5, 2) := by decide +kernel
theorem d5 : decode yB 5 = .ok (.iload 4, 2) := by decide +kernel
theorem d7 : decode yB 7 = .ok (.if_icmp (.ge) 37, 3) := by decide +kernel
theorem d10 : decode yB 10 = .ok (.aload_n 0, 1) := by decide +kernel
theorem d11 : decode yB 11 = .ok (.iload_n 1, 1) := by decide +kernel
theorem d12 : decode yB 12 = .ok (.caload, 1) := by decide +kernel
theorem d13 : decode yB 13 = .ok (.istore 6, 2) := by decide +kernel
theorem d15 : decode yB 15 = .ok (.iload 6, 2) := by decide +kernel
theorem d17 : decode yB 17 = .ok (.sipush 255, 3) := by decide +kernel
theorem d20 : decode yB 20 = .ok (.if_icmp (.le) 6, 3) := by decide +kernel
theorem d26 : decode yB 26 = .ok (.aload_n 2, 1) := by decide +kernel
theorem d27 : decode yB 27 = .ok (.iload_n 3, 1) := by decide +kernel
theorem d28 : decode yB 28 = .ok (.iload 6, 2) := by decide +kernel
theorem d30 : decode yB 30 = .ok (.i2b, 1) := by decide +kernel
theorem d31 : decode yB 31 = .ok (.bastore, 1) := by decide +kernel
theorem d32 : decode yB 32 = .ok (.iinc 1 1, 3) := by decide +kernel
theorem d35 : decode yB 35 = .ok (.iinc 3 1, 3) := by decide +kernel
theorem d38 : decode yB 38 = .ok (.iinc 5 1, 3) := by decide +kernel
theorem d41 : decode yB 41 = .ok (.goto (-38), 3) := by decide +kernel
theorem d44 : decode yB 44 = .ok (.iload 4, 2) := by decide +kernel
theorem d46 : decode yB 46 = .ok (.ireturn, 1) := by decide +kernel
def site : List Cond := []
def tab : Cond := tabOf yN yB 7 (some .int) site
def P (b : Addr) (A : Cell) (d : Addr) (B : Cell) (o q len : Nat) (args : Array Value) (s : State) : Prop := args = #[.ref b, .int (Int32.ofNat o), .ref d, .int (Int32.ofNat q), .int (Int32.ofNat len)] ∧ Ch b A s ∧ Arr .byte d B s ∧ b ≠ d ∧ o + len ≤ A.slots.size ∧ q + len ≤ B.slots.size ∧ ∀ i, i < len → ¬ 255 < cv A (o + i)
def E (b : Addr) (A : Cell) (d : Addr) (B : Cell) (o q len : Nat) (r : Option Value) (s u : State) : Prop := r = some (.int (Int32.ofNat len)) ∧ ∃ B', Put d B' s u ∧ Laid B B' q (q + len) (fun j => Value.int (lo8 (cv A (o + (j - q)))))
/-- no char of the range above 255: len; the places written hold each char's low byte -/
theorem law (l : Launch) (b : Addr) (A : Cell) (d : Addr) (B : Cell) (o q len : Nat) : Law l yN 5 5 0 0 yB 7 (some .int) site (P b A d B o q len) (E b A d B o q len) (copyLocs d q len) 0 0 := by
  refine Law.of_walk (plainFor_of_name (by decide +kernel)) (by decide +kernel) (by decide +kernel) (by decide) (fun _ _ h => by rw [h.1]; rfl) (fun _ U U' hal hh h => ⟨h.1, h.2.1.mv hal hh, h.2.2.1.mv hal hh, h.2.2.2⟩) (fun r U U' V V' h1 hal h2 h => ⟨h.1, h.2.elim fun B' q => ⟨B', q.1.mv h1 h2, q.2⟩⟩) ?_
  intro p e s m args below meth c s₁ X0 hexec hbytes hml hret hlk hnm hown hh0 W hP
  obtain ⟨rfl, hA, hB, hne, l1, l2, hp⟩ := hP
  have c1 : Steps p.tables e below (s₁.setTop (entryFrame m #[.ref b, .int (Int32.ofNat o), .ref d, .int (Int32.ofNat q), .int (Int32.ofNat len)] 7)) (s₁.setTop (mkF m 0 #[.val (.ref b), .val (.int (Int32.ofNat o)), .val (.ref d), .val (.int (Int32.ofNat q)), .val (.int (Int32.ofNat len)), .unset, .unset] [])) := entry rfl
  have hA0 := hA.1.mv X0.warmed.alike hh0
  have hB0 := hB.mv X0.warmed.alike hh0
  have a31 := hA.1.2.2.2
  have c2 : Steps p.tables e below (s₁.setTop (entryFrame m #[.ref b, .int (Int32.ofNat o), .ref d, .int (Int32.ofNat q), .int (Int32.ofNat len)] 7)) (s₁.setTop (mkF m 3 #[.val (.ref b), .val (.int (Int32.ofNat o)), .val (.ref d), .val (.int (Int32.ofNat q)), .val (.int (Int32.ofNat len)), .val (.int 0), .unset] [])) := c1.trans (by
    refine iconstV X0.here hexec rfl 0 (hb hbytes d0) (by decide) ?_
    refine XS.istore X0.here hexec rfl (hb hbytes d1) rfl rfl ?_
    exact Steps.refl _)
  have loop : ∀ (r i : Nat), i + r = len → ∀ (z : Slot), (z = .unset ∨ ∃ w, z = .val w ∧ w.category = 1) → ∀ (Tl : State) (Bk : Cell), Stand p l e { frames := 0, locals := 0, cells := 0, slots := 0 } s m #[.ref b, .int (Int32.ofNat o), .ref d, .int (Int32.ofNat q), .int (Int32.ofNat len)] below meth c Tl ([] ++ copyLocs d q i) 0 0 → Put d Bk s₁ Tl → Laid B Bk q (q + i) (fun j => Value.int (lo8 (cv A (o + (j - q))))) →
      Steps p.tables e below (s₁.setTop (entryFrame m #[.ref b, .int (Int32.ofNat o), .ref d, .int (Int32.ofNat q), .int (Int32.ofNat len)] 7)) (Tl.setTop (mkF m 3 #[.val (.ref b), .val (.int (Int32.ofNat (o + i))), .val (.ref d), .val (.int (Int32.ofNat (q + i))), .val (.int (Int32.ofNat len)), .val (.int (Int32.ofNat i)), z] [])) → ∃ (T' : State) (B' : Cell) (z' : Slot), Stand p l e { frames := 0, locals := 0, cells := 0, slots := 0 } s m #[.ref b, .int (Int32.ofNat o), .ref d, .int (Int32.ofNat q), .int (Int32.ofNat len)] below meth c T' ([] ++ copyLocs d q len) 0 0 ∧ Put d B' s₁ T' ∧ Laid B B' q (q + len) (fun j => Value.int (lo8 (cv A (o + (j - q))))) ∧
      Steps p.tables e below (s₁.setTop (entryFrame m #[.ref b, .int (Int32.ofNat o), .ref d, .int (Int32.ofNat q), .int (Int32.ofNat len)] 7)) (T'.setTop (mkF m 3 #[.val (.ref b), .val (.int (Int32.ofNat (o + len))), .val (.ref d), .val (.int (Int32.ofNat (q + len))), .val (.int (Int32.ofNat len)), .val (.int (Int32.ofNat len)), z'] [])) := by
    intro r
    induction r with
    | zero =>
      intro i hi z hz Tl Bk Xl pl fl cl
      have hil : i = len := by omega
      rw [hil] at Xl fl cl
      exact ⟨Tl, Bk, z, Xl, pl, fl, cl⟩
    | succ r ih =>
      intro i hi z hz Tl Bk Xl pl fl cl
      have all := X0.warmed.alike.symm.trans Xl.warmed.alike
      have hAl := hA0.keep all (pl.other hne hA0.1)
      have hBk := hB0.like all pl.1 fl.1 fl.2.1 fl.2.2.1
      have hlt : q + i < Bk.slots.size := by rw [fl.2.2.1]; omega
      have c3 : Steps p.tables e below (s₁.setTop (entryFrame m #[.ref b, .int (Int32.ofNat o), .ref d, .int (Int32.ofNat q), .int (Int32.ofNat len)] 7)) (Tl.setTop (mkF m 12 #[.val (.ref b), .val (.int (Int32.ofNat (o + i))), .val (.ref d), .val (.int (Int32.ofNat (q + i))), .val (.int (Int32.ofNat len)), .val (.int (Int32.ofNat i)), z] [.int (Int32.ofNat (o + i)), .ref b])) := cl.trans (by
        refine XS.iload Xl.here hexec rfl (hb hbytes d3) rfl ?_
        refine XS.iload Xl.here hexec rfl (hb hbytes d5) rfl ?_
        refine XS.icmpNo Xl.here hexec rfl (hb hbytes d7) rfl (ii_ge_f (lt32 (by omega) (by omega))) ?_
        refine XS.aloadN Xl.here hexec rfl (hb hbytes d10) rfl rfl ?_
        refine XS.iloadN Xl.here hexec rfl (hb hbytes d11) rfl ?_
        exact Steps.refl _)
      have c4 : Steps p.tables e below (s₁.setTop (entryFrame m #[.ref b, .int (Int32.ofNat o), .ref d, .int (Int32.ofNat q), .int (Int32.ofNat len)] 7)) (Tl.setTop (mkF m 13 #[.val (.ref b), .val (.int (Int32.ofNat (o + i))), .val (.ref d), .val (.int (Int32.ofNat (q + i))), .val (.int (Int32.ofNat len)), .val (.int (Int32.ofNat i)), z] [.int (cv A (o + i))])) := c3.trans (by
        refine Xl.aget hexec hAl rfl (hA.get (i := o + i) (by omega)) rfl rfl (hb hbytes d12) ?_
        exact Steps.refl _)
      have c5 : Steps p.tables e below (s₁.setTop (entryFrame m #[.ref b, .int (Int32.ofNat o), .ref d, .int (Int32.ofNat q), .int (Int32.ofNat len)] 7)) (Tl.setTop (mkF m 15 #[.val (.ref b), .val (.int (Int32.ofNat (o + i))), .val (.ref d), .val (.int (Int32.ofNat (q + i))), .val (.int (Int32.ofNat len)), .val (.int (Int32.ofNat i)), .val (.int (cv A (o + i)))] [])) := c4.trans (by
        refine XS.istoreS Xl.here hexec rfl (hb hbytes d13) rfl rfl hz ?_
        exact Steps.refl _)
      have c6 : Steps p.tables e below (s₁.setTop (entryFrame m #[.ref b, .int (Int32.ofNat o), .ref d, .int (Int32.ofNat q), .int (Int32.ofNat len)] 7)) (Tl.setTop (mkF m 31 #[.val (.ref b), .val (.int (Int32.ofNat (o + i))), .val (.ref d), .val (.int (Int32.ofNat (q + i))), .val (.int (Int32.ofNat len)), .val (.int (Int32.ofNat i)), .val (.int (cv A (o + i)))] [.int (lo8 (cv A (o + i))), .int (Int32.ofNat (q + i)), .ref d])) := c5.trans (by
        refine XS.iload Xl.here hexec rfl (hb hbytes d15) rfl ?_
        refine sipushV Xl.here hexec rfl 255 (hb hbytes d17) (by decide) ?_
        refine XS.icmpYes Xl.here hexec rfl (pc0 := 20) rfl (hb hbytes d20) rfl (ii_le_t (hp i (by omega))) (by decide) rfl ?_
        refine XS.aloadN Xl.here hexec rfl (hb hbytes d26) rfl rfl ?_
        refine XS.iloadN Xl.here hexec rfl (hb hbytes d27) rfl ?_
        refine XS.iload Xl.here hexec rfl (hb hbytes d28) rfl ?_
        refine i2b Xl.here hexec rfl (hb hbytes d30) rfl ?_
        exact Steps.refl _)
      obtain ⟨T7, X7, p7, st7⟩ := Xl.aput hexec hBk rfl hlt rfl (fits_lo8 (cv A (o + i))) (g := (mkF m 31 #[.val (.ref b), .val (.int (Int32.ofNat (o + i))), .val (.ref d), .val (.int (Int32.ofNat (q + i))), .val (.int (Int32.ofNat len)), .val (.int (Int32.ofNat i)), .val (.int (cv A (o + i)))] [.int (lo8 (cv A (o + i))), .int (Int32.ofNat (q + i)), .ref d])) rfl (rest := []) rfl (hb hbytes d31)
      have c8 : Steps p.tables e below (s₁.setTop (entryFrame m #[.ref b, .int (Int32.ofNat o), .ref d, .int (Int32.ofNat q), .int (Int32.ofNat len)] 7)) (T7.setTop (mkF m 32 #[.val (.ref b), .val (.int (Int32.ofNat (o + i))), .val (.ref d), .val (.int (Int32.ofNat (q + i))), .val (.int (Int32.ofNat len)), .val (.int (Int32.ofNat i)), .val (.int (cv A (o + i)))] [])) := c6.trans (st7 _ (Steps.refl _))
      have c9 : Steps p.tables e below (s₁.setTop (entryFrame m #[.ref b, .int (Int32.ofNat o), .ref d, .int (Int32.ofNat q), .int (Int32.ofNat len)] 7)) (T7.setTop (mkF m 3 #[.val (.ref b), .val (.int (Int32.ofNat (o + i) + 1)), .val (.ref d), .val (.int (Int32.ofNat (q + i) + 1)), .val (.int (Int32.ofNat len)), .val (.int (Int32.ofNat i + 1)), .val (.int (cv A (o + i)))] [])) := c8.trans (by
        refine iincV X7.here hexec rfl 1 (hb hbytes d32) (by decide) rfl rfl ?_
        refine iincV X7.here hexec rfl 1 (hb hbytes d35) (by decide) rfl rfl ?_
        refine iincV X7.here hexec rfl 1 (hb hbytes d38) (by decide) rfl rfl ?_
        refine XS.goto X7.here hexec rfl (pc0 := 41) rfl (hb hbytes d41) (by decide) rfl ?_
        exact Steps.refl _)
      have c10 : Steps p.tables e below (s₁.setTop (entryFrame m #[.ref b, .int (Int32.ofNat o), .ref d, .int (Int32.ofNat q), .int (Int32.ofNat len)] 7)) (T7.setTop (mkF m 3 #[.val (.ref b), .val (.int (Int32.ofNat (o + (i + 1)))), .val (.ref d), .val (.int (Int32.ofNat (q + (i + 1)))), .val (.int (Int32.ofNat len)), .val (.int (Int32.ofNat (i + 1))), .val (.int (cv A (o + i)))] [])) := by
        have := c9
        rw [succ32, succ32, succ32] at this
        exact this
      exact ih (i + 1) (by omega) _ (Or.inr ⟨_, rfl, rfl⟩) T7 _ (by rw [copyLocs_step, ← List.append_assoc]; exact X7) (pl.trans p7) (fl.step (by omega) hlt (by simp)) c10
  obtain ⟨T9, B9, z9, X9, p9, f9, g9⟩ := loop len 0 (by omega) .unset (Or.inl rfl) s₁ B (by simpa [copyLocs] using X0) ⟨hB0.1, fun _ _ => rfl, rfl⟩ (Laid.zero _ _ _) c2
  have c11 : Steps p.tables e below (s₁.setTop (entryFrame m #[.ref b, .int (Int32.ofNat o), .ref d, .int (Int32.ofNat q), .int (Int32.ofNat len)] 7)) (T9.setTop (mkF m 46 #[.val (.ref b), .val (.int (Int32.ofNat (o + len))), .val (.ref d), .val (.int (Int32.ofNat (q + len))), .val (.int (Int32.ofNat len)), .val (.int (Int32.ofNat len)), z9] [.int (Int32.ofNat len)])) := g9.trans (by
    refine XS.iload X9.here hexec rfl (hb hbytes d3) rfl ?_
    refine XS.iload X9.here hexec rfl (hb hbytes d5) rfl ?_
    refine XS.icmpYes X9.here hexec rfl (pc0 := 7) rfl (hb hbytes d7) rfl (ii_ge_t (nlt32 (by omega) (Nat.le_refl _))) (by decide) rfl ?_
    refine XS.iload X9.here hexec rfl (hb hbytes d44) rfl ?_
    exact Steps.refl _)
  exact ⟨T9, some (.int (Int32.ofNat len)), _, _, _, X9, by simp, rfl, rfl, (fun h => by cases h), ⟨rfl, B9, p9.from hh0, f9⟩, fun fs hl => c11.trans (X9.ireturnOut hexec hret rfl (Or.inl rfl) (hb hbytes d46) hl)⟩
end Cmp5
namespace Cmp3
def yN : MethodName := ⟨"java/lang/StringUTF16", "compress", "([CII)[B"⟩
abbrev yB : ByteArray := jdk_52_method_16_code
theorem d0 : decode yB 0 = .ok (.iload_n 2, 1) := by decide +kernel
theorem d1 : decode yB 1 = .ok (.newarray .byte, 2) := by decide +kernel
theorem d3 : decode yB 3 = .ok (.astore_n 3, 1) := by decide +kernel
theorem d4 : decode yB 4 = .ok (.aload_n 0, 1) := by decide +kernel
theorem d5 : decode yB 5 = .ok (.iload_n 1, 1) := by decide +kernel
theorem d6 : decode yB 6 = .ok (.aload_n 3, 1) := by decide +kernel
theorem d7 : decode yB 7 = .ok (.iconst 0, 1) := by decide +kernel
theorem d8 : decode yB 8 = .ok (.iload_n 2, 1) := by decide +kernel
theorem d9 : decode yB 9 = .ok (.invokestatic 115, 3) := by decide +kernel
theorem d12 : decode yB 12 = .ok (.istore 4, 2) := by decide +kernel
theorem d14 : decode yB 14 = .ok (.iload 4, 2) := by decide +kernel
theorem d16 : decode yB 16 = .ok (.iload_n 2, 1) := by decide +kernel
theorem d17 : decode yB 17 = .ok (.if_icmp (.eq) 40, 3) := by decide +kernel
theorem d57 : decode yB 57 = .ok (.aload_n 3, 1) := by decide +kernel
theorem d58 : decode yB 58 = .ok (.areturn, 1) := by decide +kernel
def site : List Cond := [.arrayClass .byte, Cmp5.tab] ++ staticW U16 115 Cmp5.yN
def tab : Cond := tabOf yN yB 6 (some (.array .byte)) site
def P (b : Addr) (A : Cell) (o len : Nat) (args : Array Value) (s : State) : Prop := args = #[.ref b, .int (Int32.ofNat o), .int (Int32.ofNat len)] ∧ Ch b A s ∧ o + len ≤ A.slots.size ∧ len ≤ 536870912 ∧ ∀ i, i < len → ¬ 255 < cv A (o + i)
def E (b : Addr) (A : Cell) (o len : Nat) (r : Option Value) (s u : State) : Prop := NewArr .byte "[B" len (fun j => .int (lo8 (cv A (o + j)))) r s u ∧ u.heap.size = s.heap.size + 1
/-- no char of the range above 255: a new byte[] of their low bytes -/
theorem law (l : Launch) (b : Addr) (A : Cell) (o len : Nat) : Law l yN 3 3 1 18 yB 6 (some (.array .byte)) site (P b A o len) (E b A o len) [] 1 len := by
  refine Law.of_walk (plainFor_of_name (by decide +kernel)) (by decide +kernel) (by decide +kernel) (by decide) (fun _ _ h => by rw [h.1]; rfl) (fun _ U U' hal hh h => ⟨h.1, h.2.1.mv hal hh, h.2.2⟩) (fun r U U' V V' h1 hal h2 h => ⟨NewArr.mv r U U' V V' h1 hal h2 h.1, by rw [h1, h2]; exact h.2⟩) ?_
  intro p e s m args below meth c s₁ X0 hexec hbytes hml hret hlk hnm hown hh0 W hP
  obtain ⟨rfl, hA, l1, l2, hp⟩ := hP
  have a31 := hA.1.2.2.2
  have c1 : Steps p.tables e below (s₁.setTop (entryFrame m #[.ref b, .int (Int32.ofNat o), .int (Int32.ofNat len)] 6)) (s₁.setTop (mkF m 0 #[.val (.ref b), .val (.int (Int32.ofNat o)), .val (.int (Int32.ofNat len)), .unset, .unset, .unset] [])) := entry rfl
  have c2 : Steps p.tables e below (s₁.setTop (entryFrame m #[.ref b, .int (Int32.ofNat o), .int (Int32.ofNat len)] 6)) (s₁.setTop (mkF m 1 #[.val (.ref b), .val (.int (Int32.ofNat o)), .val (.int (Int32.ofNat len)), .unset, .unset, .unset] [.int (Int32.ofNat len)])) := c1.trans (by
    refine XS.iloadN X0.here hexec rfl (hb hbytes d0) rfl ?_
    exact Steps.refl _)
  obtain ⟨T3, B3, X3, ba3, bs3, bv3, bh3, bf3, st3⟩ := X0.anew hexec (atype := .byte) (wk W (.arrayClass .byte)) rfl (by show len * 1 ≤ _; omega) (by omega) (g := (mkF m 1 #[.val (.ref b), .val (.int (Int32.ofNat o)), .val (.int (Int32.ofNat len)), .unset, .unset, .unset] [.int (Int32.ofNat len)])) rfl (hb hbytes d1) (rest := []) rfl (Nat.le_refl _) (by show 0 + len ≤ len; omega)
  rw [hh0] at ba3 st3
  have kp3 : XT.Kept s T3 := (XT.Kept.of_eq hh0).push bh3
  have hA3 := hA.keep X3.warmed.alike (kp3 _ _ hA.1.1)
  have hne : b ≠ s.heap.size := hA.1.ne
  have c4 : Steps p.tables e below (s₁.setTop (entryFrame m #[.ref b, .int (Int32.ofNat o), .int (Int32.ofNat len)] 6)) (T3.setTop (mkF m 3 #[.val (.ref b), .val (.int (Int32.ofNat o)), .val (.int (Int32.ofNat len)), .unset, .unset, .unset] [.ref s.heap.size])) := c2.trans (st3 _ (Steps.refl _))
  have c5 : Steps p.tables e below (s₁.setTop (entryFrame m #[.ref b, .int (Int32.ofNat o), .int (Int32.ofNat len)] 6)) (T3.setTop (mkF m 9 #[.val (.ref b), .val (.int (Int32.ofNat o)), .val (.int (Int32.ofNat len)), .val (.ref s.heap.size), .unset, .unset] [.int (Int32.ofNat len), .int 0, .ref s.heap.size, .int (Int32.ofNat o), .ref b])) := c4.trans (by
    refine XS.astoreN X3.here hexec rfl (hb hbytes d3) rfl rfl rfl ?_
    refine XS.aloadN X3.here hexec rfl (hb hbytes d4) rfl rfl ?_
    refine XS.iloadN X3.here hexec rfl (hb hbytes d5) rfl ?_
    refine XS.aloadN X3.here hexec rfl (hb hbytes d6) rfl rfl ?_
    refine iconstV X3.here hexec rfl 0 (hb hbytes d7) (by decide) ?_
    refine XS.iloadN X3.here hexec rfl (hb hbytes d8) rfl ?_
    exact Steps.refl _)
  obtain ⟨v6, T6, X6, E6, g6⟩ := X3.callS hexec (Cmp5.law l b A s.heap.size B3 o 0 len) hown (wks W (staticW U16 115 Cmp5.yN)) (wk W Cmp5.tab) (W := 0) (Nat.le_of_ble_eq_true rfl) (Nat.le_of_ble_eq_true rfl) (Nat.le_refl _) (by show 0 + len + 0 ≤ len; omega) (g := (mkF m 9 #[.val (.ref b), .val (.int (Int32.ofNat o)), .val (.int (Int32.ofNat len)), .val (.ref s.heap.size), .unset, .unset] [.int (Int32.ofNat len), .int (Int32.ofNat 0), .ref s.heap.size, .int (Int32.ofNat o), .ref b])) rfl (by rw [hml]; rfl) c5 (argsL := [.ref b, .int (Int32.ofNat o), .ref s.heap.size, .int (Int32.ofNat 0), .int (Int32.ofNat len)]) (rest := []) rfl rfl (by show 2 * 0 + 0 ≤ _; decide) (hb hbytes d9) (⟨rfl, hA3, ba3, hne, l1, by rw [bs3]; simp, hp⟩)
  obtain ⟨rfl, B6, p6, f6⟩ := E6
  have c7 : Steps p.tables e below (s₁.setTop (entryFrame m #[.ref b, .int (Int32.ofNat o), .int (Int32.ofNat len)] 6)) (T6.setTop (mkF m 12 #[.val (.ref b), .val (.int (Int32.ofNat o)), .val (.int (Int32.ofNat len)), .val (.ref s.heap.size), .unset, .unset] [.int (Int32.ofNat len)])) := g6
  have c8 : Steps p.tables e below (s₁.setTop (entryFrame m #[.ref b, .int (Int32.ofNat o), .int (Int32.ofNat len)] 6)) (T6.setTop (mkF m 58 #[.val (.ref b), .val (.int (Int32.ofNat o)), .val (.int (Int32.ofNat len)), .val (.ref s.heap.size), .val (.int (Int32.ofNat len)), .unset] [.ref s.heap.size])) := c7.trans (by
    refine XS.istore X6.here hexec rfl (hb hbytes d12) rfl rfl ?_
    refine XS.iload X6.here hexec rfl (hb hbytes d14) rfl ?_
    refine XS.iloadN X6.here hexec rfl (hb hbytes d16) rfl ?_
    refine XS.icmpYes X6.here hexec rfl (pc0 := 17) rfl (hb hbytes d17) rfl (ii_eq_t rfl) (by decide) rfl ?_
    refine XS.aloadN X6.here hexec rfl (hb hbytes d57) rfl rfl ?_
    exact Steps.refl _)
  have X8 := X6.wide (L' := []) (cells' := 1) (slots' := len) (fun x hx hlt => by
    simp only [List.nil_append, copyLocs, List.mem_map, List.mem_range] at hx
    obtain ⟨i, -, rfl⟩ := hx
    exact absurd hlt (Nat.lt_irrefl _)) (Nat.le_refl _) (by omega)
  exact ⟨T6, some (.ref s.heap.size), _, _, _, X8, rfl, rfl, rfl, (fun h => by cases h), ⟨⟨rfl, B6, ba3.like (X3.warmed.alike.symm.trans X6.warmed.alike) p6.1 f6.1 f6.2.1 f6.2.2.1, f6.2.1.trans bv3, by rw [X6.warmed.alike.findClass, f6.1]; exact bf3, by rw [f6.2.2.1, bs3]; simp, fun j hj => by rw [f6.2.2.2 j, if_pos (by omega)]; rfl, kp3.put p6 (Nat.le_refl _)⟩, by rw [p6.2.2, bh3, hh0]; simp⟩, fun fs hl => c8.trans (X8.areturnOut hexec rfl hret rfl (hb hbytes d58) hl)⟩
end Cmp3
namespace CodL
def yN : MethodName := ⟨"java/lang/StringUTF16", "coderFromArrayLen", "([BI)B"⟩
abbrev yB : ByteArray := jdk_52_method_15_code
theorem d0 : decode yB 0 = .ok (.iload_n 1, 1) := by decide +kernel
theorem d1 : decode yB 1 = .ok (.aload_n 0, 1) := by decide +kernel
theorem d2 : decode yB 2 = .ok (.arraylength, 1) := by decide +kernel
theorem d3 : decode yB 3 = .ok (.isub, 1) := by decide +kernel
theorem d4 : decode yB 4 = .ok (.bipush 31, 2) := by decide +kernel
theorem d6 : decode yB 6 = .ok (.iushr, 1) := by decide +kernel
theorem d7 : decode yB 7 = .ok (.i2b, 1) := by decide +kernel
theorem d8 : decode yB 8 = .ok (.ireturn, 1) := by decide +kernel
def site : List Cond := []
def tab : Cond := tabOf yN yB 2 (some .byte) site
def P (d : Addr) (B : Cell) (args : Array Value) (s : State) : Prop := args = #[.ref d, .int (Int32.ofNat B.slots.size)] ∧ Arr .byte d B s
def E (r : Option Value) (s u : State) : Prop := XT.PureE (some (.int 0)) r s u
/-- an array as long as the number of chars: LATIN1 -/
theorem law (l : Launch) (d : Addr) (B : Cell) : Law l yN 2 2 0 0 yB 2 (some .byte) site (P d B) E [] 0 0 := by
  refine Law.of_walk (plainFor_of_name (by decide +kernel)) (by decide +kernel) (by decide +kernel) (by decide) (fun _ _ h => by rw [h.1]; rfl) (fun _ U U' hal hh h => ⟨h.1, h.2.mv hal hh⟩) (fun r U U' V V' h1 hal h2 h => XT.PureE.mv r U U' V V' h1 hal h2 h) ?_
  intro p e s m args below meth c s₁ X0 hexec hbytes hml hret hlk hnm hown hh0 W hP
  obtain ⟨rfl, hB⟩ := hP
  have hB0 := hB.mv X0.warmed.alike hh0
  have c1 : Steps p.tables e below (s₁.setTop (entryFrame m #[.ref d, .int (Int32.ofNat B.slots.size)] 2)) (s₁.setTop (mkF m 0 #[.val (.ref d), .val (.int (Int32.ofNat B.slots.size))] [])) := entry rfl
  have c2 : Steps p.tables e below (s₁.setTop (entryFrame m #[.ref d, .int (Int32.ofNat B.slots.size)] 2)) (s₁.setTop (mkF m 2 #[.val (.ref d), .val (.int (Int32.ofNat B.slots.size))] [.ref d, .int (Int32.ofNat B.slots.size)])) := c1.trans (by
    refine XS.iloadN X0.here hexec rfl (hb hbytes d0) rfl ?_
    refine XS.aloadN X0.here hexec rfl (hb hbytes d1) rfl rfl ?_
    exact Steps.refl _)
  have c3 : Steps p.tables e below (s₁.setTop (entryFrame m #[.ref d, .int (Int32.ofNat B.slots.size)] 2)) (s₁.setTop (mkF m 8 #[.val (.ref d), .val (.int (Int32.ofNat B.slots.size))] [.int (lo8 (ushr (Int32.ofNat B.slots.size - Int32.ofNat B.slots.size) 31))])) := c2.trans (by
    refine X0.alen hexec hB0 rfl rfl (hb hbytes d2) ?_
    refine XS.isub X0.here hexec rfl (hb hbytes d3) rfl ?_
    refine bipushV X0.here hexec rfl 31 (hb hbytes d4) (by decide) ?_
    refine iushr X0.here hexec rfl (hb hbytes d6) rfl ?_
    refine i2b X0.here hexec rfl (hb hbytes d7) rfl ?_
    exact Steps.refl _)
  have e0 : lo8 (ushr (Int32.ofNat B.slots.size - Int32.ofNat B.slots.size) 31) = 0 := by rw [Int32.sub_self]; decide
  rw [e0] at c3
  exact ⟨s₁, some (.int 0), _, _, _, X0, rfl, rfl, rfl, (fun h => by cases h), ⟨rfl, hh0⟩, fun fs hl => c3.trans (X0.ireturnOut hexec hret rfl (Or.inr (Or.inr (Or.inl rfl))) (hb hbytes d8) hl)⟩
end CodL
/-- the String at a is Latin-1 over a new byte[] (the heap's one new cell): the low bytes of the len chars of A from o on; every cell but a is kept -/
def Got (a : Addr) (D : Cell) (fV fC : Field) (A : Cell) (o len : Nat) (r : Option Value) (s u : State) : Prop := r = none ∧ ∃ D' V : Cell, Blank "java/lang/String" a D' u ∧ Same D D' [fV.slot, fC.slot] ∧ D'.slots[fV.slot]? = some (.ref s.heap.size) ∧ D'.slots[fC.slot]? = some (.int 0) ∧ Arr .byte s.heap.size V u ∧ V.vm = .none ∧ u.vm.findClass "[B" = some V.cls ∧ V.slots.size = len ∧ (∀ j, j < len → V.slots[j]? = some (.int (lo8 (cv A (o + j))))) ∧ (∀ (y : Addr) (c : Cell), y ≠ a → s.heap[y]? = some c → u.heap[y]? = some c) ∧ u.heap.size = s.heap.size + 1
theorem Got.mv {a : Addr} {D A : Cell} {fV fC : Field} {o len : Nat} : ∀ r (U U' V V' : State), U'.heap = U.heap → V.vm.Alike V'.vm → V'.heap = V.heap → Got a D fV fC A o len r U V → Got a D fV fC A o len r U' V' :=
  fun r U U' V V' h1 hal h2 ⟨e0, D', X, a1, a2, a3, a4, a5, a6, a7, a8, a9, a10, a11⟩ => ⟨e0, D', X, a1.mv hal h2, a2, by rw [h1]; exact a3, a4, by rw [h1]; exact a5.mv hal h2, a6, by rw [hal.findClass]; exact a7, a8, a9, by rw [h1, h2]; exact a10, by rw [h1, h2]; exact a11⟩
namespace New4
def yN : MethodName := ⟨"java/lang/String", "<init>", "([CIILjava/lang/Void;)V"⟩
abbrev yB : ByteArray := jdk_42_method_149_code
theorem d0 : decode yB 0 = .ok (.aload_n 0, 1) := by decide +kernel
theorem d1 : decode yB 1 = .ok (.invokespecial 1, 3) := by decide +kernel
theorem d4 : decode yB 4 = .ok (.iload_n 3, 1) := by decide +kernel
theorem d5 : decode yB 5 = .ok (.ifCond (.ne) 22, 3) := by decide +kernel
theorem d27 : decode yB 27 = .ok (.getstatic 38, 3) := by decide +kernel
theorem d30 : decode yB 30 = .ok (.ifCond (.eq) 28, 3) := by decide +kernel
theorem d33 : decode yB 33 = .ok (.aload_n 1, 1) := by decide +kernel
theorem d34 : decode yB 34 = .ok (.iload_n 2, 1) := by decide +kernel
theorem d35 : decode yB 35 = .ok (.iload_n 3, 1) := by decide +kernel
theorem d36 : decode yB 36 = .ok (.invokestatic 177, 3) := by decide +kernel
theorem d39 : decode yB 39 = .ok (.astore 5, 2) := by decide +kernel
theorem d41 : decode yB 41 = .ok (.aload_n 0, 1) := by decide +kernel
theorem d42 : decode yB 42 = .ok (.aload 5, 2) := by decide +kernel
theorem d44 : decode yB 44 = .ok (.iload_n 3, 1) := by decide +kernel
theorem d45 : decode yB 45 = .ok (.invokestatic 47, 3) := by decide +kernel
theorem d48 : decode yB 48 = .ok (.putfield 15, 3) := by decide +kernel
theorem d51 : decode yB 51 = .ok (.aload_n 0, 1) := by decide +kernel
theorem d52 : decode yB 52 = .ok (.aload 5, 2) := by decide +kernel
theorem d54 : decode yB 54 = .ok (.putfield 9, 3) := by decide +kernel
theorem d57 : decode yB 57 = .ok (.return_, 1) := by decide +kernel
def site : List Cond := [.fieldLink "java/lang/String" 38 "java/lang/String" "COMPACT_STRINGS" "Z", Cmp3.tab, CodL.tab, .laysFinal "java/lang/String" "java/lang/String" "value" "[B", .fieldLink "java/lang/String" 9 "java/lang/String" "value" "[B", .laysFinal "java/lang/String" "java/lang/String" "coder" "B", .fieldLink "java/lang/String" 15 "java/lang/String" "coder" "B"] ++ objW "java/lang/String" 1 ++ staticW "java/lang/String" 177 Cmp3.yN ++ staticW "java/lang/String" 47 CodL.yN
def tab : Cond := tabOf yN yB 6 none site
def P (a : Addr) (D : Cell) (fV fC : Field) (b : Addr) (A : Cell) (z : Int32) (o len : Nat) (args : Array Value) (s : State) : Prop := args = #[.ref a, .ref b, .int (Int32.ofNat o), .int (Int32.ofNat len), .null] ∧ Blank "java/lang/String" a D s ∧ Found "java/lang/String" "value" "[B" fV s ∧ Found "java/lang/String" "coder" "B" fC s ∧ Ch b A s ∧ StaticIs s "java/lang/String" "COMPACT_STRINGS" "Z" (.int z) ∧ ¬ z = 0 ∧ 0 < len ∧ o + len ≤ A.slots.size ∧ len ≤ 536870912 ∧ ∀ i, i < len → ¬ 255 < cv A (o + i)
def E (a : Addr) (D : Cell) (fV fC : Field) (A : Cell) (o len : Nat) (r : Option Value) (s u : State) : Prop := Got a D fV fC A o len r s u
/-- len > 0, no char of the range above 255: a Latin-1 String of their low bytes -/
theorem law (l : Launch) (a : Addr) (D : Cell) (fV fC : Field) (b : Addr) (A : Cell) (z : Int32) (o len : Nat) : Law l yN 5 4 2 35 yB 6 none site (P a D fV fC b A z o len) (E a D fV fC A o len) [⟨a, fC.slot⟩, ⟨a, fV.slot⟩] 1 len := by
  refine Law.of_walk (plainFor_of_name (by decide +kernel)) (by decide +kernel) (by decide +kernel) (by decide) (fun _ _ h => by rw [h.1]; rfl) (fun _ U U' hal hh h => ⟨h.1, h.2.1.mv hal hh, h.2.2.1.al hal, h.2.2.2.1.al hal, h.2.2.2.2.1.mv hal hh, h.2.2.2.2.2.1.there hal hh, h.2.2.2.2.2.2⟩) (fun r U U' V V' h1 hal h2 h => Got.mv r U U' V V' h1 hal h2 h) ?_
  intro p e s m args below meth c s₁ X0 hexec hbytes hml hret hlk hnm hown hh0 W hP
  obtain ⟨rfl, hB, f1, f2, hA, s1, hz, l0, l1, l2, hp⟩ := hP
  have a31 := hA.1.2.2.2
  have c1 : Steps p.tables e below (s₁.setTop (entryFrame m #[.ref a, .ref b, .int (Int32.ofNat o), .int (Int32.ofNat len), .null] 6)) (s₁.setTop (mkF m 0 #[.val (.ref a), .val (.ref b), .val (.int (Int32.ofNat o)), .val (.int (Int32.ofNat len)), .val .null, .unset] [])) := entry rfl
  have c2 : Steps p.tables e below (s₁.setTop (entryFrame m #[.ref a, .ref b, .int (Int32.ofNat o), .int (Int32.ofNat len), .null] 6)) (s₁.setTop (mkF m 1 #[.val (.ref a), .val (.ref b), .val (.int (Int32.ofNat o)), .val (.int (Int32.ofNat len)), .val .null, .unset] [.ref a])) := c1.trans (by
    refine XS.aloadN X0.here hexec rfl (hb hbytes d0) rfl rfl ?_
    exact Steps.refl _)
  obtain ⟨T3, X3, q3, st3⟩ := X0.oinit hexec hown (wks W (objW "java/lang/String" 1)) (g := (mkF m 1 #[.val (.ref a), .val (.ref b), .val (.int (Int32.ofNat o)), .val (.int (Int32.ofNat len)), .val .null, .unset] [.ref a])) rfl (by rw [hml]; rfl) (rest := []) rfl (hb hbytes d1) (W := 0) (by show 2 * 0 + 0 ≤ _; decide) (Nat.le_of_ble_eq_true rfl) (Nat.le_of_ble_eq_true rfl)
  have hh3 := q3.trans hh0
  have c4 : Steps p.tables e below (s₁.setTop (entryFrame m #[.ref a, .ref b, .int (Int32.ofNat o), .int (Int32.ofNat len), .null] 6)) (T3.setTop (mkF m 27 #[.val (.ref a), .val (.ref b), .val (.int (Int32.ofNat o)), .val (.int (Int32.ofNat len)), .val .null, .unset] [])) := (c2.trans (st3 _ (Steps.refl _))).trans (by
    refine XS.iloadN X3.here hexec rfl (hb hbytes d4) rfl ?_
    refine XS.ifYes X3.here hexec rfl (pc0 := 5) rfl (hb hbytes d5) rfl (i0_ne_t (nz32 (by omega) l0)) (by decide) rfl ?_
    exact Steps.refl _)
  obtain ⟨T5, X5, q5, st5⟩ := X3.sget hexec hown (wk W (.fieldLink "java/lang/String" 38 "java/lang/String" "COMPACT_STRINGS" "Z")) s1 (fun _ _ h => by rw [hh3]; exact h) (g := (mkF m 27 #[.val (.ref a), .val (.ref b), .val (.int (Int32.ofNat o)), .val (.int (Int32.ofNat len)), .val .null, .unset] [])) rfl (hb hbytes d27)
  have hh5 := q5.trans hh3
  have c6 : Steps p.tables e below (s₁.setTop (entryFrame m #[.ref a, .ref b, .int (Int32.ofNat o), .int (Int32.ofNat len), .null] 6)) (T5.setTop (mkF m 30 #[.val (.ref a), .val (.ref b), .val (.int (Int32.ofNat o)), .val (.int (Int32.ofNat len)), .val .null, .unset] [.int z])) := c4.trans (st5 _ (Steps.refl _))
  have c7 : Steps p.tables e below (s₁.setTop (entryFrame m #[.ref a, .ref b, .int (Int32.ofNat o), .int (Int32.ofNat len), .null] 6)) (T5.setTop (mkF m 36 #[.val (.ref a), .val (.ref b), .val (.int (Int32.ofNat o)), .val (.int (Int32.ofNat len)), .val .null, .unset] [.int (Int32.ofNat len), .int (Int32.ofNat o), .ref b])) := c6.trans (by
    refine XS.ifNo X5.here hexec rfl (hb hbytes d30) rfl (i0_eq_f hz) ?_
    refine XS.aloadN X5.here hexec rfl (hb hbytes d33) rfl rfl ?_
    refine XS.iloadN X5.here hexec rfl (hb hbytes d34) rfl ?_
    refine XS.iloadN X5.here hexec rfl (hb hbytes d35) rfl ?_
    exact Steps.refl _)
  obtain ⟨v8, T8, X8, E8, g8⟩ := X5.callS hexec (Cmp3.law l b A o len) hown (wks W (staticW "java/lang/String" 177 Cmp3.yN)) (wk W Cmp3.tab) (W := 0) (Nat.le_of_ble_eq_true rfl) (Nat.le_of_ble_eq_true rfl) (Nat.le_refl _) (by show 0 + len ≤ len; omega) (g := (mkF m 36 #[.val (.ref a), .val (.ref b), .val (.int (Int32.ofNat o)), .val (.int (Int32.ofNat len)), .val .null, .unset] [.int (Int32.ofNat len), .int (Int32.ofNat o), .ref b])) rfl (by rw [hml]; rfl) c7 (argsL := [.ref b, .int (Int32.ofNat o), .int (Int32.ofNat len)]) (rest := []) rfl rfl (by show 2 * 0 + 0 ≤ _; decide) (hb hbytes d36) (⟨rfl, hA.mv X5.warmed.alike hh5, l1, l2, hp⟩)
  obtain ⟨e8, z8⟩ := E8
  obtain ⟨rfl, N, n1, n2, n3, n4, n5, n6⟩ := NewArr.mv _ T5 s _ _ hh5.symm (Vm.Alike.refl _) rfl e8
  rw [hh5] at z8
  have hB1 := hB.keep X8.warmed.alike (n6 _ _ hB.1)
  have hne : s.heap.size ≠ a := (Nat.ne_of_lt (Array.getElem?_eq_some_iff.mp hB.1).1).symm
  have c9 : Steps p.tables e below (s₁.setTop (entryFrame m #[.ref a, .ref b, .int (Int32.ofNat o), .int (Int32.ofNat len), .null] 6)) (T8.setTop (mkF m 39 #[.val (.ref a), .val (.ref b), .val (.int (Int32.ofNat o)), .val (.int (Int32.ofNat len)), .val .null, .unset] [.ref s.heap.size])) := g8
  have c10 : Steps p.tables e below (s₁.setTop (entryFrame m #[.ref a, .ref b, .int (Int32.ofNat o), .int (Int32.ofNat len), .null] 6)) (T8.setTop (mkF m 45 #[.val (.ref a), .val (.ref b), .val (.int (Int32.ofNat o)), .val (.int (Int32.ofNat len)), .val .null, .val (.ref s.heap.size)] [.int (Int32.ofNat N.slots.size), .ref s.heap.size, .ref a])) := by
    have hc : Steps p.tables e below (s₁.setTop (entryFrame m #[.ref a, .ref b, .int (Int32.ofNat o), .int (Int32.ofNat len), .null] 6)) (T8.setTop (mkF m 45 #[.val (.ref a), .val (.ref b), .val (.int (Int32.ofNat o)), .val (.int (Int32.ofNat len)), .val .null, .val (.ref s.heap.size)] [.int (Int32.ofNat len), .ref s.heap.size, .ref a])) := c9.trans (by
      refine XS.astore X8.here hexec rfl (hb hbytes d39) rfl rfl rfl ?_
      refine XS.aloadN X8.here hexec rfl (hb hbytes d41) rfl rfl ?_
      refine XS.aload X8.here hexec rfl (hb hbytes d42) rfl rfl ?_
      refine XS.iloadN X8.here hexec rfl (hb hbytes d44) rfl ?_
      exact Steps.refl _)
    rw [n4]; exact hc
  obtain ⟨v11, T11, X11, E11, g11⟩ := X8.callS hexec (CodL.law l s.heap.size N) hown (wks W (staticW "java/lang/String" 47 CodL.yN)) (wk W CodL.tab) (W := 1) (Nat.le_of_ble_eq_true rfl) (Nat.le_of_ble_eq_true rfl) (Nat.le_refl _) (by show 0 + len + 0 ≤ len; omega) (g := (mkF m 45 #[.val (.ref a), .val (.ref b), .val (.int (Int32.ofNat o)), .val (.int (Int32.ofNat len)), .val .null, .val (.ref s.heap.size)] [.int (Int32.ofNat N.slots.size), .ref s.heap.size, .ref a])) rfl (by rw [hml]; rfl) c10 (argsL := [.ref s.heap.size, .int (Int32.ofNat N.slots.size)]) (rest := [.ref a]) rfl rfl (by show 2 * 0 + (1 + 0) ≤ _; decide) (hb hbytes d45) (⟨rfl, n1⟩)
  obtain ⟨rfl, q11⟩ := E11
  have hB11 := hB1.mv (X8.warmed.alike.symm.trans X11.warmed.alike) q11
  have c12 : Steps p.tables e below (s₁.setTop (entryFrame m #[.ref a, .ref b, .int (Int32.ofNat o), .int (Int32.ofNat len), .null] 6)) (T11.setTop (mkF m 48 #[.val (.ref a), .val (.ref b), .val (.int (Int32.ofNat o)), .val (.int (Int32.ofNat len)), .val .null, .val (.ref s.heap.size)] [.int 0, .ref a])) := g11
  obtain ⟨T13, X13, p13, bl13, sl13, st13⟩ := X11.finit hexec hown (wk W (.fieldLink "java/lang/String" 15 "java/lang/String" "coder" "B")) (Or.inr ⟨_, (wk W (.laysFinal "java/lang/String" "java/lang/String" "coder" "B"))⟩) (Or.inl ⟨rfl, hnm⟩) f2 (Or.inl rfl) hB11 (t := .byte) (by decide +kernel) rfl (g := (mkF m 48 #[.val (.ref a), .val (.ref b), .val (.int (Int32.ofNat o)), .val (.int (Int32.ofNat len)), .val .null, .val (.ref s.heap.size)] [.int 0, .ref a])) rfl (rest := []) rfl (hb hbytes d48)
  have c14 : Steps p.tables e below (s₁.setTop (entryFrame m #[.ref a, .ref b, .int (Int32.ofNat o), .int (Int32.ofNat len), .null] 6)) (T13.setTop (mkF m 54 #[.val (.ref a), .val (.ref b), .val (.int (Int32.ofNat o)), .val (.int (Int32.ofNat len)), .val .null, .val (.ref s.heap.size)] [.ref s.heap.size, .ref a])) := (c12.trans (st13 _ (Steps.refl _))).trans (by
    refine XS.aloadN X13.here hexec rfl (hb hbytes d51) rfl rfl ?_
    refine XS.aload X13.here hexec rfl (hb hbytes d52) rfl rfl ?_
    exact Steps.refl _)
  obtain ⟨T15, X15, p15, bl15, sl15, st15⟩ := X13.finit hexec hown (wk W (.fieldLink "java/lang/String" 9 "java/lang/String" "value" "[B")) (Or.inr ⟨_, (wk W (.laysFinal "java/lang/String" "java/lang/String" "value" "[B"))⟩) (Or.inl ⟨rfl, hnm⟩) f1 (Or.inl rfl) bl13 (t := (.array .byte)) (by decide +kernel) rfl (g := (mkF m 54 #[.val (.ref a), .val (.ref b), .val (.int (Int32.ofNat o)), .val (.int (Int32.ofNat len)), .val .null, .val (.ref s.heap.size)] [.ref s.heap.size, .ref a])) rfl (rest := []) rfl (hb hbytes d54)
  have c16 : Steps p.tables e below (s₁.setTop (entryFrame m #[.ref a, .ref b, .int (Int32.ofNat o), .int (Int32.ofNat len), .null] 6)) (T15.setTop (mkF m 57 #[.val (.ref a), .val (.ref b), .val (.int (Int32.ofNat o)), .val (.int (Int32.ofNat len)), .val .null, .val (.ref s.heap.size)] [])) := c14.trans (st15 _ (Steps.refl _))
  have ap := apart (Or.inr ⟨_, (wk W (.laysFinal "java/lang/String" "java/lang/String" "value" "[B"))⟩) (Or.inr ⟨_, (wk W (.laysFinal "java/lang/String" "java/lang/String" "coder" "B"))⟩) f1 f2 (t₁ := .array .byte) (t₂ := .byte) (by decide +kernel) (by decide +kernel) (by decide)
  have al := X8.warmed.alike.symm.trans X15.warmed.alike
  have n7 : T11.heap[s.heap.size]? = some N := by rw [q11]; exact n1.1
  exact ⟨T15, none, _, _, _, X15, by simp, rfl, by omega, (fun _ => rfl), ⟨rfl, _, N, bl15, ((Same.refl D _).set _ (by simp)).set _ (by simp), sl15, (Cell.slots_setSlot_ne _ ap).trans sl13, n1.keep al (p15.other hne (p13.other hne n7)), n2, by rw [al.findClass]; exact n3, n4, n5, fun y c h1 h2 => p15.other h1 (p13.other h1 (by rw [q11]; exact n6 y c h2)), by rw [p15.2.2, p13.2.2, q11]; exact z8⟩, fun fs hl => c16.trans (X15.returnOut hexec hret (hb hbytes d57) hl)⟩
end New4
namespace New1
def yN : MethodName := ⟨"java/lang/String", "<init>", "([C)V"⟩
abbrev yB : ByteArray := jdk_42_method_3_code
theorem d0 : decode yB 0 = .ok (.aload_n 0, 1) := by decide +kernel
theorem d1 : decode yB 1 = .ok (.aload_n 1, 1) := by decide +kernel
theorem d2 : decode yB 2 = .ok (.iconst 0, 1) := by decide +kernel
theorem d3 : decode yB 3 = .ok (.aload_n 1, 1) := by decide +kernel
theorem d4 : decode yB 4 = .ok (.arraylength, 1) := by decide +kernel
theorem d5 : decode yB 5 = .ok (.aconst_null, 1) := by decide +kernel
theorem d6 : decode yB 6 = .ok (.invokespecial 27, 3) := by decide +kernel
theorem d9 : decode yB 9 = .ok (.return_, 1) := by decide +kernel
def site : List Cond := [New4.tab] ++ initW "java/lang/String" 27 New4.yN
def tab : Cond := tabOf yN yB 2 none site
def P (a : Addr) (D : Cell) (fV fC : Field) (b : Addr) (A : Cell) (z : Int32) (args : Array Value) (s : State) : Prop := args = #[.ref a, .ref b] ∧ Blank "java/lang/String" a D s ∧ Found "java/lang/String" "value" "[B" fV s ∧ Found "java/lang/String" "coder" "B" fC s ∧ Ch b A s ∧ StaticIs s "java/lang/String" "COMPACT_STRINGS" "Z" (.int z) ∧ ¬ z = 0 ∧ 0 < A.slots.size ∧ A.slots.size ≤ 536870912 ∧ ∀ i, i < A.slots.size → ¬ 255 < cv A i
def E (a : Addr) (D : Cell) (fV fC : Field) (A : Cell) (r : Option Value) (s u : State) : Prop := Got a D fV fC A 0 A.slots.size r s u
/-- new String(chars), not empty, no char above 255: a Latin-1 String of their low bytes -/
theorem law (l : Launch) (a : Addr) (D : Cell) (fV fC : Field) (b : Addr) (A : Cell) (z : Int32) : Law l yN 2 1 3 52 yB 2 none site (P a D fV fC b A z) (E a D fV fC A) [⟨a, fC.slot⟩, ⟨a, fV.slot⟩] 1 A.slots.size := by
  refine Law.of_walk (plainFor_of_name (by decide +kernel)) (by decide +kernel) (by decide +kernel) (by decide) (fun _ _ h => by rw [h.1]; rfl) (fun _ U U' hal hh h => ⟨h.1, h.2.1.mv hal hh, h.2.2.1.al hal, h.2.2.2.1.al hal, h.2.2.2.2.1.mv hal hh, h.2.2.2.2.2.1.there hal hh, h.2.2.2.2.2.2⟩) (fun r U U' V V' h1 hal h2 h => Got.mv r U U' V V' h1 hal h2 h) ?_
  intro p e s m args below meth c s₁ X0 hexec hbytes hml hret hlk hnm hown hh0 W hP
  obtain ⟨rfl, hB, f1, f2, hA, s1, hz, l0, l2, hp⟩ := hP
  have c1 : Steps p.tables e below (s₁.setTop (entryFrame m #[.ref a, .ref b] 2)) (s₁.setTop (mkF m 0 #[.val (.ref a), .val (.ref b)] [])) := entry rfl
  have c2 : Steps p.tables e below (s₁.setTop (entryFrame m #[.ref a, .ref b] 2)) (s₁.setTop (mkF m 6 #[.val (.ref a), .val (.ref b)] [.null, .int (Int32.ofNat A.slots.size), .int 0, .ref b, .ref a])) := c1.trans (by
    refine XS.aloadN X0.here hexec rfl (hb hbytes d0) rfl rfl ?_
    refine XS.aloadN X0.here hexec rfl (hb hbytes d1) rfl rfl ?_
    refine iconstV X0.here hexec rfl 0 (hb hbytes d2) (by decide) ?_
    refine XS.aloadN X0.here hexec rfl (hb hbytes d3) rfl rfl ?_
    refine X0.alen hexec (hA.1.mv X0.warmed.alike hh0) rfl rfl (hb hbytes d4) ?_
    refine XS.aconstNull X0.here hexec rfl (hb hbytes d5) ?_
    exact Steps.refl _)
  obtain ⟨v3, T3, X3, E3, g3⟩ := X0.callN hexec (New4.law l a D fV fC b A z 0 A.slots.size) rfl hown (wks W (initW "java/lang/String" 27 New4.yN)) (W New4.tab (by simp only [site, List.mem_cons, List.mem_append, true_or, or_true])) (W := 0) (Nat.le_of_ble_eq_true rfl) (Nat.le_of_ble_eq_true rfl) (Nat.le_refl _) (by show 0 + A.slots.size ≤ A.slots.size; omega) (g := (mkF m 6 #[.val (.ref a), .val (.ref b)] [.null, .int (Int32.ofNat A.slots.size), .int (Int32.ofNat 0), .ref b, .ref a])) rfl (by rw [hml]; rfl) c2 (argsL := [.ref b, .int (Int32.ofNat 0), .int (Int32.ofNat A.slots.size), .null]) (rest := []) rfl rfl (by show 2 * 0 + 0 ≤ _; decide) (hb hbytes d6) (⟨rfl, hB.mv X0.warmed.alike hh0, f1.al X0.warmed.alike, f2.al X0.warmed.alike, hA.mv X0.warmed.alike hh0, s1.there X0.warmed.alike hh0, hz, l0, by omega, l2, fun i hi => by rw [Nat.zero_add]; exact hp i hi⟩)
  have e0 := Got.mv _ s₁ s _ _ hh0.symm (Vm.Alike.refl _) rfl E3
  obtain rfl := e0.1
  have c4 : Steps p.tables e below (s₁.setTop (entryFrame m #[.ref a, .ref b] 2)) (T3.setTop (mkF m 9 #[.val (.ref a), .val (.ref b)] [])) := g3
  exact ⟨T3, none, _, _, _, X3, by simp, rfl, by omega, (fun _ => rfl), e0, fun fs hl => c4.trans (X3.returnOut hexec hret (hb hbytes d9) hl)⟩
theorem pays {l : Launch} {R : Room} {p : Program} {e : Env} {below : List Frame} {s : State} {sargs : Array Value} {len W : Nat} (a : Addr) (D : Cell) (fV fC : Field) (b : Addr) (A : Cell) (z : Int32) (htab : tab.before sargs s = true) (hfr : 4 ≤ R.frames) (hlo : W + 65 ≤ R.locals) :
    Back l R p e below s sargs yN len W (fun A₁ a₁ => A₁.cells + 1 ≤ R.cells ∧ A₁.slots + A.slots.size ≤ R.slots ∧ P a D fV fC b A z a₁ A₁.U) (fun A₁ _ v₁ B₁ => E a D fV fC A v₁ A₁.U B₁.U ∧ B₁.locs = A₁.locs ++ [⟨a, fC.slot⟩, ⟨a, fV.slot⟩] ∧ B₁.cells = A₁.cells + 1 ∧ B₁.slots = A₁.slots + A.slots.size) :=
  (law l a D fV fC b A z).pays htab hfr (by omega)
end New1
end StrChars
namespace StrChars.Road
open Jvm Sem ClassFile Op Lib Jvm.Stand Jvm.Free Jvm.Free.XT
open Jvm.Lib.Cold (StaticIs)
abbrev ST : String := "java/lang/String"
/-- every table word that New1's law asks, flat -/
abbrev words : List Jvm.Cond := [.code New1.yN New1.yB 2 none, .initialized ST, .methodLink ST 27 New4.yN, .instanceMethod New4.yN,
  .code New4.yN New4.yB 6 none, .fieldLink ST 38 ST "COMPACT_STRINGS" "Z", .laysFinal ST ST "value" "[B", .fieldLink ST 9 ST "value" "[B", .laysFinal ST ST "coder" "B", .fieldLink ST 15 ST "coder" "B",
  .methodLink ST 1 Lib.objectInit, .instanceMethod Lib.objectInit, .code Lib.objectInit ⟨#[0xb1]⟩ 1 none, .methodLink ST 177 Cmp3.yN, .static Cmp3.yN, .methodLink ST 47 CodL.yN, .static CodL.yN,
  .code Cmp3.yN Cmp3.yB 6 (some (.array .byte)), .initialized U16, .arrayClass .byte, .methodLink U16 115 Cmp5.yN, .static Cmp5.yN, .code Cmp5.yN Cmp5.yB 7 (some .int), .code CodL.yN CodL.yB 2 (some .byte)]
theorem tab_of {a : Array Value} {s : State} (h : ∀ w ∈ words, w.before a s = true) : New1.tab.before a s = true := by
  have h5 : Cmp5.tab.before a s = true := unparts (wk h (.code Cmp5.yN Cmp5.yB 7 (some .int))) (wks h (.initialized Cmp5.yN.cls :: Cmp5.site))
  have hc : CodL.tab.before a s = true := unparts (wk h (.code CodL.yN CodL.yB 2 (some .byte))) (wks h (.initialized CodL.yN.cls :: CodL.site))
  have q5 : ∀ w ∈ Cmp5.tab :: words, w.before a s = true := fun w hw => (List.mem_cons.mp hw).elim (fun e => e ▸ h5) (h w)
  have h3 : Cmp3.tab.before a s = true := unparts (wk q5 (.code Cmp3.yN Cmp3.yB 6 (some (.array .byte)))) (wks q5 (.initialized Cmp3.yN.cls :: Cmp3.site))
  have q3 : ∀ w ∈ Cmp3.tab :: CodL.tab :: words, w.before a s = true := fun w hw => (List.mem_cons.mp hw).elim (fun e => e ▸ h3) fun hw => (List.mem_cons.mp hw).elim (fun e => e ▸ hc) (h w)
  have h4 : New4.tab.before a s = true := unparts (wk q3 (.code New4.yN New4.yB 6 none)) (wks q3 (.initialized New4.yN.cls :: New4.site))
  have q4 : ∀ w ∈ New4.tab :: words, w.before a s = true := fun w hw => (List.mem_cons.mp hw).elim (fun e => e ▸ h4) (h w)
  exact unparts (wk q4 (.code New1.yN New1.yB 2 none)) (wks q4 (.initialized New1.yN.cls :: New1.site))
/-- the words ride from the start Z to the walk's own state -/
theorem moved {Z s : State} {a0 args : Array Value} (hZ : Z.Warmed39 s.vm) (hw : ∀ d ∈ words, d.before a0 Z = true) : ∀ d ∈ words, d.before args s = true := fun d hd => by
  have q := hw d hd
  have t : ∀ d ∈ words, d = .arrayClass .byte ∨ (d.onTables && d.keepsFace) = true := by decide +kernel
  rcases t d hd with rfl | t
  · exact RoadKit.mvA hZ q
  · exact RoadKit.mv hZ q t
/-- WHAT COMES BACK, over the tables of the start Z: h the heap at the call, h' behind it -/
def Q (Z : State) (x : Addr) (A : Cell) (h : Heap) (v : Option Value) (h' : Heap) (L : List Loc) : Prop := v = none ∧ (∀ y ∈ L, y.base = x) ∧ RoadKit.Keep h h' [x] ∧ h'.size = h.size + 1 ∧ RoadKit.Exa Z h' x ST ∧ RoadKit.Fld Z h' x ST "value" "[B" (.ref h.size) ∧ RoadKit.Fld Z h' x ST "coder" "B" (.int 0) ∧
  (∃ V : Cell, RoadKit.Arr Z h' h.size V .byte ∧ V.vm = .none ∧ Z.vm.findClass "[B" = some V.cls ∧ V.slots.size = A.slots.size ∧ ∀ j, j < A.slots.size → V.slots[j]? = some (.int (lo8 (cv A j)))) ∧
  ∀ (O n d : String) (w : Value), RoadKit.Fld Z h x O n d w → RoadKit.slotOf Z O n d ≠ RoadKit.slotOf Z ST "value" "[B" → RoadKit.slotOf Z O n d ≠ RoadKit.slotOf Z ST "coder" "B" → RoadKit.Fld Z h' x O n d w
/-- **new String(chars) AT A CALL, IN THE ROAD'S FORM**: for specialBack behind newO: x the fresh String, b the char[] with the cell A -/
theorem back {p : Program} {l : Launch} {e : Env} {R : Room} {s : State} {args : Array Value} {below : List Frame} {len W : Nat} {Z : State} {a0 : Array Value} {h : Heap} (hZ : Z.Warmed39 s.vm) (hw : ∀ d ∈ words, d.before a0 Z = true) {kI : Nat} (wi : (Jvm.Cond.instantiable ST kI).before a0 Z = true)
    {x b : Addr} {A : Cell} {z : Int32} {v0 c0 : Value} (E : RoadKit.Exa Z h x ST) (V : RoadKit.Fld Z h x ST "value" "[B" v0) (C : RoadKit.Fld Z h x ST "coder" "B" c0) (K : RoadKit.Arr Z h b A .char) (hty : Typed .char A) (S : RoadKit.Sta Z h ST "COMPACT_STRINGS" "Z" (.int z)) (hz : ¬ z = 0)
    (l0 : 0 < A.slots.size) (l2 : A.slots.size ≤ 536870912) (hp : ∀ i, i < A.slots.size → ¬ 255 < cv A i) (hfr : 4 ≤ R.frames) (hlo : W + 65 ≤ R.locals) :
    Back l R p e below s args New1.yN len W (fun P a => a = #[.ref x, .ref b] ∧ P.U.heap = h ∧ P.cells + 1 ≤ R.cells ∧ P.slots + A.slots.size ≤ R.slots)
      (fun P _ v B => ∃ L, Q Z x A h v B.U.heap L ∧ B.locs = P.locs ++ L ∧ B.cells = P.cells + 1 ∧ B.slots = P.slots + A.slots.size) := by
  intro m meth c P g ig mk a X hg hsize hdg hW hn hp'
  obtain ⟨rfl, rfl, r1, r2⟩ := hp'
  have al : Z.vm.Alike P.U.vm := hZ.alike.trans X.warmed.alike
  obtain ⟨D, cfV, kV, iV, fV, hD, gV, stV, knV, obV, asV, slV⟩ := id V
  obtain ⟨D', cfC, kC, iC, fC, hD', gC, stC, -, -, asC, slC⟩ := id C
  cases hD.symm.trans hD'
  obtain ⟨D2, kD, e1, e2, e3, e4, e5⟩ := id E
  cases hD.symm.trans e1
  obtain ⟨c2, k2, i1, i2, i3, -⟩ := Cond.instantiable_spec wi
  cases e2.symm.trans i1
  cases e3.symm.trans i2
  obtain ⟨kU, u1, u2⟩ := al.2.2 _ _ e3
  have hB : Blank ST x D P.U := ⟨hD, ⟨knV, fun q hq => by rw [hq] at obV; cases obV⟩, by rw [al.findClass]; exact e2, kU, u1, by rw [u2]; exact i3, by rw [u2]; exact e5 i3⟩
  have F1 : Found ST "value" "[B" fV P.U := ⟨SBG.found_only al ⟨cfV, kV, iV, gV⟩, stV⟩
  have F2 : Found ST "coder" "B" fC P.U := ⟨SBG.found_only al ⟨cfC, kC, iC, gC⟩, stC⟩
  have hA : Ch b A P.U := ⟨⟨K.1, State.isArrayOf_alike al K.2.1, K.2.2, by omega⟩, hty⟩
  have hS : StaticIs P.U ST "COMPACT_STRINGS" "Z" (.int z) := by
    obtain ⟨cfS, iS, kS, fS, st, cS, t1, t2, t3, t4, t5, t6, t7⟩ := S
    exact StaticIs.there (s := { Z with heap := P.U.heap }) ⟨cfS, iS, kS, fS, st, cS, t1, t2, t3, t4, t5, (fun q => by rw [q] at t6; cases t6), t7⟩ al rfl
  obtain ⟨v, B, X', ⟨⟨hv, E', V', q1, q2, q3, q4, q5, q6, q7, q8, q9, q10, q11⟩, hl, hc, hs⟩, st⟩ := New1.pays x D fV fC b A z (tab_of (moved hZ hw)) hfr hlo m meth c P g ig mk _ X hg hsize hdg hW hn ⟨r1, r2, rfl, hB, F1, F2, hA, hS, hz, l0, l2, hp⟩
  have al' : Z.vm.Alike B.U.vm := hZ.alike.trans X'.warmed.alike
  have hsz : E'.slots.size = D.slots.size := by
    obtain ⟨-, -, -, kB, w1, w2, w3⟩ := q1
    obtain ⟨kB', y1, y2⟩ := al'.2.2 _ _ e3
    rw [q2.2.1] at w1
    cases w1.symm.trans y1
    rw [w3, e5 i3, y2]
  refine ⟨v, B, X', ⟨_, ⟨hv, ?_, ⟨by omega, fun y cy hy hn' => q10 y cy (by simpa using hn') hy, fun y cy hy => ?_⟩, q11, ⟨E', _, q1.1, by rw [q2.2.1]; exact e2, by rw [q2.2.1]; exact e3, by rw [q2.1]; exact obV, fun _ => by rw [hsz]; exact e5 i3⟩,
    ⟨E', cfV, kV, iV, fV, q1.1, gV, stV, by rw [q2.1]; exact knV, by rw [q2.1]; exact obV, by rw [q2.2.1]; exact asV, q3⟩, ⟨E', cfC, kC, iC, fC, q1.1, gC, stC, by rw [q2.1]; exact knV, by rw [q2.1]; exact obV, by rw [q2.2.1]; exact asC, q4⟩,
    ⟨V', ⟨q5.1, State.isArrayOf_alike al'.symm q5.2.1, q5.2.2.1⟩, q6, by rw [← al'.findClass]; exact q7, q8, fun j hj => by have := q9 j hj; rwa [Nat.zero_add] at this⟩, fun O n d w F n1 n2 => ?_⟩, hl, hc, hs⟩, st⟩
  · intro y hy
    simp only [List.mem_cons, List.not_mem_nil, or_false] at hy
    rcases hy with rfl | rfl <;> rfl
  · by_cases q : y = x
    · subst q
      cases hD.symm.trans hy
      exact ⟨E', q1.1, q2.2.1, q2.1, hsz⟩
    · exact ⟨cy, q10 y cy q hy, rfl, rfl, rfl⟩
  · obtain ⟨D3, cf, k, i, f, g1, g2, g3, g4, g5, g6, g7⟩ := F
    cases hD.symm.trans g1
    simp only [RoadKit.slotOf, g2, gV, gC, Option.map_some, Option.getD_some] at n1 n2
    exact ⟨E', cf, k, i, f, q1.1, g2, g3, by rw [q2.1]; exact g4, by rw [q2.1]; exact g5, by rw [q2.2.1]; exact g6, by rw [q2.2.2 f.slot (by simp [n1, n2])]; exact g7⟩
end StrChars.Road
namespace StrChars.Road
open Jvm Sem ClassFile Op Lib Jvm.Stand Jvm.Free Jvm.Free.XT
/-- WHAT COMES BACK, the byte[] as a list of values -/
def QA (Z : State) (x : Addr) (zn : Int32) (cs : List Int32) (h : Heap) (v : Option Value) (h' : Heap) (L : List Loc) : Prop := v = none ∧ (∀ y ∈ L, y.base = x) ∧ RoadKit.Keep h h' [x] ∧ h'.size = h.size + 1 ∧ RoadKit.Exa Z h' x ST ∧ RoadKit.Fld Z h' x ST "value" "[B" (.ref h.size) ∧ RoadKit.Fld Z h' x ST "coder" "B" (.int 0) ∧
  (∃ kb, Z.vm.findClass "[B" = some kb ∧ RoadKit.Arv Z h' h.size kb .byte zn (cs.map fun c => .int (lo8 c)) (.int 0)) ∧
  ∀ (O n d : String) (w : Value), RoadKit.Fld Z h x O n d w → RoadKit.slotOf Z O n d ≠ RoadKit.slotOf Z ST "value" "[B" → RoadKit.slotOf Z O n d ≠ RoadKit.slotOf Z ST "coder" "B" → RoadKit.Fld Z h' x O n d w
/-- **new String(chars) AT A CALL, THE ARRAYS AS LISTS**: the char[] at b holds cs, not empty, no char above 255 -/
theorem backArv {p : Program} {l : Launch} {e : Env} {R : Room} {s : State} {args : Array Value} {below : List Frame} {len W : Nat} {Z : State} {a0 : Array Value} {h : Heap} (hZ : Z.Warmed39 s.vm) (hw : ∀ d ∈ words, d.before a0 Z = true) {kI : Nat} (wi : (Jvm.Cond.instantiable ST kI).before a0 Z = true)
    {x b : Addr} {k : ClassId} {zn z : Int32} {cs : List Int32} {dv v0 c0 : Value} (E : RoadKit.Exa Z h x ST) (V : RoadKit.Fld Z h x ST "value" "[B" v0) (C : RoadKit.Fld Z h x ST "coder" "B" c0) (K : RoadKit.Arv Z h b k .char zn (cs.map Value.int) dv) (S : RoadKit.Sta Z h ST "COMPACT_STRINGS" "Z" (.int z)) (hz : ¬ z = 0)
    (hlen : zn.toNatClampNeg = cs.length) (h0 : 0 < cs.length) (hbig : cs.length ≤ 536870912) (hall : ∀ c ∈ cs, ¬ 255 < c) (hfr : 4 ≤ R.frames) (hlo : W + 65 ≤ R.locals) :
    Back l R p e below s args New1.yN len W (fun P a => a = #[.ref x, .ref b] ∧ P.U.heap = h ∧ P.cells + 1 ≤ R.cells ∧ P.slots + cs.length ≤ R.slots)
      (fun P _ v B => ∃ L, QA Z x zn cs h v B.U.heap L ∧ B.locs = P.locs ++ L ∧ B.cells = P.cells + 1 ∧ B.slots = P.slots + cs.length) := by
  obtain ⟨A, K1, K2, K3, K4, K5, K6⟩ := K
  have e : A.slots.size = cs.length := K3.trans hlen
  have hat : ∀ (i : Nat) (hi : i < cs.length), A.slots[i]? = some (.int cs[i]) := fun i hi => by rw [K5 i (by omega)]; simp [List.getD_eq_getElem?_getD, hi]
  have hcv : ∀ (i : Nat) (hi : i < cs.length), cv A i = cs[i] := fun i hi => by unfold cv; rw [hat i hi]
  have hty : Typed .char A := fun i v hv => by
    have hi : i < A.slots.size := (Array.getElem?_eq_some_iff.mp hv).1
    have q := K5 i hi
    rw [hv] at q
    rw [Option.some.inj q]
    exact K6 i hi
  refine Back.mono (back hZ hw wi E V C K1 hty S hz (by omega) (by omega) (fun i hi => by rw [hcv i (by omega)]; exact hall _ (List.getElem_mem _)) hfr hlo) (fun P a hp => ⟨hp.1, hp.2.1, hp.2.2.1, by rw [e]; exact hp.2.2.2⟩) (fun P a v B hp hq => ?_)
  obtain ⟨L, ⟨q1, q2, q3, q4, q5, q6, q7, ⟨V', v1, v2, v3, v4, v5⟩, q9⟩, hl, hc, hs⟩ := hq
  refine ⟨L, ⟨q1, q2, q3, q4, q5, q6, q7, ⟨V'.cls, v3, V', v1, rfl, by rw [v4, e, hlen], K4, fun i hi => ?_, fun i hi => ?_⟩, q9⟩, hl, hc, by rw [hs, e]⟩
  · have hi' : i < cs.length := by omega
    rw [v5 i (by omega), hcv i hi']; simp [List.getD_eq_getElem?_getD, hi']
  · have hi' : i < cs.length := by omega
    simp only [List.getD_eq_getElem?_getD, List.getElem?_map, List.getElem?_eq_getElem hi', Option.map_some, Option.getD_some]
    exact fits_lo8 _
end StrChars.Road
namespace StrChars.Road
open Jvm Sem ClassFile Op Lib Jvm.Stand Jvm.Free Jvm.Free.XT
/-- WHAT COMES BACK, in the writer's own shape -/
def QV (Z : State) (x : Addr) (N : Int32) (bs : List Int32) (h : Heap) (n0 : Nat) (v : Option Value) (h' : Heap) (L : List Loc) : Prop := v = none ∧ RoadKit.Fr n0 L ∧ RoadKit.Keep h h' [x] ∧ RoadKit.Exa Z h' x ST ∧ RoadKit.Fld Z h' x ST "coder" "B" (.int 0) ∧
  ∃ (t : Addr) (kb : ClassId), n0 ≤ t ∧ h.size ≤ t ∧ ¬ t = x ∧ RoadKit.Fld Z h' x ST "value" "[B" (.ref t) ∧ RoadKit.Arv Z h' t kb .byte N (bs.map Value.int) (.int 0)
/-- **new String(chars) AT A CALL, FOR THE WRITER**: a char[] of n known ints, each 0 to 255 -/
theorem backV {p : Program} {l : Launch} {e : Env} {R : Room} {s : State} {args : Array Value} {below : List Frame} {len W : Nat} {Z : State} {a0 : Array Value} {h : Heap} (hZ : Z.Warmed39 s.vm) (hw : ∀ d ∈ words, d.before a0 Z = true) {kI : Nat} (wi : (Jvm.Cond.instantiable ST kI).before a0 Z = true)
    {x b : Addr} {kC : ClassId} {cs bs : List Int32} {d v0 c0 : Value} {z N : Int32} {n n0 : Nat} (hx0 : n0 ≤ x) (hh0 : n0 ≤ h.size) (E : RoadKit.Exa Z h x ST) (V : RoadKit.Fld Z h x ST "value" "[B" v0) (C : RoadKit.Fld Z h x ST "coder" "B" c0) (K : RoadKit.Arv Z h b kC .char N (cs.map Value.int) d) (S : RoadKit.Sta Z h ST "COMPACT_STRINGS" "Z" (.int z)) (hz : ¬ z = 0)
    (hn : cs.length = n) (hN : N = Int32.ofNat n) (l0 : 0 < n) (l2 : n ≤ 4000) (hp : ∀ c ∈ cs, ¬ c < 0 ∧ ¬ (255 : Int32) < c) (hb : bs = cs.map (fun c => c.toInt8.toInt32)) (hfr : 4 ≤ R.frames) (hlo : W + 65 ≤ R.locals) :
    Back l R p e below s args (⟨"java/lang/String", "<init>", "([C)V"⟩ : MethodName) len W (fun P a => a = #[.ref x, .ref b] ∧ P.U.heap = h ∧ P.cells + 1 ≤ R.cells ∧ P.slots + n ≤ R.slots)
      (fun P _ v B => ∃ L, QV Z x N bs h n0 v B.U.heap L ∧ B.locs = P.locs ++ L ∧ B.cells = P.cells + 1 ∧ B.slots = P.slots + n) := by
  subst hn hN hb
  refine Back.mono (backArv hZ hw wi E V C K S hz (n32 (by omega)) l0 (by omega) (fun c hc => (hp c hc).2) hfr hlo) (fun P a hp => hp) (fun P a v B hp hq => ?_)
  obtain ⟨L, ⟨q1, q2, q3, q4, q5, q6, q7, ⟨kb, v1, v2⟩, q9⟩, hl, hc, hs⟩ := hq
  exact ⟨L, ⟨q1, fun y hy => by rw [q2 y hy]; exact hx0, q3, q5, q7, h.size, kb, hh0, Nat.le_refl _, Nat.ne_of_gt E.lt, q6, by rw [List.map_map]; exact v2⟩, hl, hc, hs⟩
end StrChars.Road
end Jvm.Pilot.@@N@@

namespace Jvm.Pilot.@@N@@
open Jvm Jvm.ClassFile Sem Op Lib Jvm.Free Jvm.Stand Jvm.LawKit Jvm.RoadKit Bundle Jvm.Pilot.@@N@@.Jvm.D
theorem own_pack {p : Program} {l : Launch} {e : Env} {R : Room} {s : State} {m : MethodId} {args : Array Value} {below : List Frame} {meth : Method} {c : Code} {T : State} {locs : List Loc} {cells slots n0 : Nat} (X : Stand p l e R s m args below meth c T locs cells slots) (N : Fr n0 locs) : ∃ L, Stand p l e R s m args below meth c T L cells slots ∧ Fr n0 L := ⟨_, X, N⟩
theorem own_toInt {n : Nat} (hn : n ≤ 4000) : (Int32.ofNat n).toInt = n := Int32.toInt_ofNat_of_lt (by omega)
theorem own_lt {i n : Nat} (hi : i ≤ 4000) (hn : n ≤ 4000) : Int32.ofNat i < Int32.ofNat n ↔ i < n := by
  rw [Int32.lt_iff_toInt_lt, own_toInt hi, own_toInt hn]; omega
theorem own_inj {i n : Nat} (hi : i ≤ 4000) (hn : n ≤ 4000) : Int32.ofNat i = Int32.ofNat n ↔ i = n := by
  rw [← Int32.toInt_inj, own_toInt hi, own_toInt hn]; omega
theorem own_nn {n : Nat} (hn : n ≤ 4000) : ¬ Int32.ofNat n < 0 := by
  rw [Int32.lt_iff_toInt_lt, own_toInt hn, show (0 : Int32).toInt = 0 from rfl]; omega
theorem own_n32 {n : Nat} (hn : n ≤ 4000) : (Int32.ofNat n).toNatClampNeg = n := by
  rw [Int32.toNatClampNeg, own_toInt hn]; rfl
theorem own_one (i : Nat) : Int32.ofNat i + (1 : Int32) = Int32.ofNat (i + 1) := (Int32.ofNat_add i 1).symm
theorem own_in {cl : Cell} {n : Nat} (hsz : cl.slots.size = (Int32.ofNat n).toNatClampNeg) (hn : n ≤ 4000) {i : Nat} (h : i < n) : ¬ (Int32.ofNat i < 0 ∨ cl.slots.size ≤ (Int32.ofNat i).toNatClampNeg) := by
  rw [hsz, own_n32 hn, own_n32 (by omega)]
  exact fun q => q.elim (own_nn (by omega)) (fun q => by omega)
theorem own_at {cl : Cell} {n : Nat} {G : Nat → Int32} (hat : ∀ j, j < n → cl.slots[j]? = some (.int (G j))) (hn : n ≤ 4000) {i : Nat} (h : i < n) : cl.slots[(Int32.ofNat i).toNatClampNeg]? = some (.int (G i)) := by
  rw [own_n32 (by omega)]; exact hat i h
theorem own_getD (bs : List Int32) (j : Nat) : (bs.map Value.int).getD j (.int (0 : Int32)) = .int (bs.getD j 0) := by
  simp only [List.getD_eq_getElem?_getD, List.getElem?_map]
  cases bs[j]? <;> rfl
theorem own_ext {a b : List Int32} (hl : a.length = b.length) (h : ∀ j, j < a.length → a.getD j 0 = b.getD j 0) : a = b := by
  apply List.ext_getElem hl
  intro j h1 h2
  have q := h j h1
  simpa [List.getD_eq_getElem?_getD, h1, h2] using q
def own_eqI (a b : List Int32) : Int32 := if a = b then 1 else 0
theorem own_same {Z : State} {h : Heap} {a b b' : Addr} {k k' : ClassId} {bs bs' : List Int32} (V : Fld Z h a "java/lang/String" "value" "[B" (.ref b)) (V' : Fld Z h a "java/lang/String" "value" "[B" (.ref b')) (K : Arv Z h b k .byte (Int32.ofNat bs.length) (bs.map Value.int) (.int (0 : Int32))) (K' : Arv Z h b' k' .byte (Int32.ofNat bs'.length) (bs'.map Value.int) (.int (0 : Int32))) (hb : bs.length ≤ 4000) (hb' : bs'.length ≤ 4000) : bs = bs' := by
  have e : b = b' := by
    apply Classical.byContradiction
    intro q
    exact Fld.ne V V' (fun z => q (Value.ref.inj z)) rfl
  subst e
  obtain ⟨c, A, -, S, -, H, -⟩ := K
  obtain ⟨c', A', -, S', -, H', -⟩ := K'
  cases A.1.symm.trans A'.1
  rw [own_n32 hb] at S
  rw [own_n32 hb'] at S'
  refine own_ext (by omega) (fun j hj => ?_)
  have q := (H j (by omega)).symm.trans (H' j (by omega))
  rw [own_getD, own_getD] at q
  exact Value.int.inj (Option.some.inj q)
def own_elems (args : Array Value) (s : State) (V : Term) : Nat → List Int32 → Prop
  | _, [] => True
  | i, b :: r => (Jvm.Cond.eq (.elem V (.int (Int32.ofNat i))) (.int b)).value args s none s [] = some true ∧ own_elems args s V (i + 1) r
theorem own_hasL {args : Array Value} {s : State} {V : Term} {x : Addr} {cl : Cell} (ev : V.eval args s none [] s = some (.ref x)) (hc : s.heap[x]? = some cl) : ∀ (bs : List Int32) (i : Nat), i + bs.length ≤ 4000 → own_elems args s V i bs → HasL cl i (bs.map Value.int)
  | [], _, _, _ => trivial
  | b :: r, i, hi, h => by
    have e1 := Cond.eq_int (n := b) (beq_iff_eq.mpr h.1 : (Jvm.Cond.eq (.elem V (.int (Int32.ofNat i))) (.int b)).holds args s none s [] = true) rfl
    have e2 := (elem_in e1 ev rfl hc).2
    simp only [List.length_cons] at hi
    rw [own_n32 (by omega)] at e2
    exact ⟨e2, own_hasL ev hc r (i + 1) (by omega) h.2⟩
/-- a String of the case's start, read off its words -/
theorem own_start {s : State} {args : Array Value} (hf : Fit s) {t : Term} {u : Addr} {bs : List Int32} (hb : bs.length ≤ 4000) (ev : t.eval args s none [] s = some (.ref u)) (hx : (Jvm.Cond.exactly t "java/lang/String").value args s none s [] = some true)
    (hc : (Jvm.Cond.eq (.field t "java/lang/String" "coder" "B") (.int 0)).value args s none s [] = some true) (ha : (Jvm.Cond.arrayOf (.field t "java/lang/String" "value" "[B") .byte).value args s none s [] = some true)
    (hl : (Jvm.Cond.eq (.length (.field t "java/lang/String" "value" "[B")) (.int (Int32.ofNat bs.length))).value args s none s [] = some true) (he : own_elems args s (.field t "java/lang/String" "value" "[B") 0 bs) :
    ∃ (b : Addr) (k : ClassId), Exa s s.heap u "java/lang/String" ∧ Fld s s.heap u "java/lang/String" "coder" "B" (.int (0 : Int32)) ∧ Fld s s.heap u "java/lang/String" "value" "[B" (.ref b) ∧ Arv s s.heap b k .byte (Int32.ofNat bs.length) (bs.map Value.int) (.int (0 : Int32)) := by
  have hlen := Cond.eq_int (n := Int32.ofNat bs.length) (beq_iff_eq.mpr hl : (Jvm.Cond.eq (.length (.field t "java/lang/String" "value" "[B")) (.int (Int32.ofNat bs.length))).holds args s none s [] = true) rfl
  have hcod := Cond.eq_int (n := 0) (beq_iff_eq.mpr hc : (Jvm.Cond.eq (.field t "java/lang/String" "coder" "B") (.int 0)).holds args s none s [] = true) rfl
  obtain ⟨b, cl, evb, harr, hv⟩ := Term.length_spec hlen
  obtain ⟨c, A⟩ := Arr.start evb ha
  have hcl : cl = c := Option.some.inj (harr.symm.trans (A.fin (Vm.Alike.refl _)))
  subst hcl
  have h31 := Jvm.Free.SBG.length_lt evb harr hlen
  have hz : cl.slots.size.toInt32 = Int32.ofNat bs.length := (Value.int.inj hv).symm
  exact ⟨b, cl.cls, Exa.start ev hx, Fld.start ((fld_at ev).symm.trans hcod), Fld.start ((fld_at ev).symm.trans evb), Arv.start hf A h31 hz (own_nn hb) (by rw [own_n32 hb, List.length_map]) (own_hasL evb A.1 bs 0 (by omega) he)⟩
theorem own_ne {Z : State} {h : Heap} {a b : Addr} {C D : String} (F : Exa Z h a C) (G : Exa Z h b D) (hn : C ≠ D) : a ≠ b := fun e => by
  subst e
  obtain ⟨c1, k1, f1, f2, -⟩ := F
  obtain ⟨c2, k2, g1, g2, -⟩ := G
  cases f1.symm.trans g1
  exact ids_ne f2 g2 hn rfl
theorem d3_0 : decode jdk_43_method_13_code 0 = .ok (.aload_n 0, 1) := by decide +kernel
theorem d3_1 : decode jdk_43_method_13_code 1 = .ok (.arraylength, 1) := by decide +kernel
theorem d3_2 : decode jdk_43_method_13_code 2 = .ok (.aload_n 1, 1) := by decide +kernel
theorem d3_3 : decode jdk_43_method_13_code 3 = .ok (.arraylength, 1) := by decide +kernel
theorem d3_4 : decode jdk_43_method_13_code 4 = .ok (.if_icmp .ne 30, 3) := by decide +kernel
theorem d3_7 : decode jdk_43_method_13_code 7 = .ok (.iconst 0, 1) := by decide +kernel
theorem d3_8 : decode jdk_43_method_13_code 8 = .ok (.istore_n 2, 1) := by decide +kernel
theorem d3_9 : decode jdk_43_method_13_code 9 = .ok (.iload_n 2, 1) := by decide +kernel
theorem d3_10 : decode jdk_43_method_13_code 10 = .ok (.aload_n 0, 1) := by decide +kernel
theorem d3_11 : decode jdk_43_method_13_code 11 = .ok (.arraylength, 1) := by decide +kernel
theorem d3_12 : decode jdk_43_method_13_code 12 = .ok (.if_icmp .ge 20, 3) := by decide +kernel
theorem d3_15 : decode jdk_43_method_13_code 15 = .ok (.aload_n 0, 1) := by decide +kernel
theorem d3_16 : decode jdk_43_method_13_code 16 = .ok (.iload_n 2, 1) := by decide +kernel
theorem d3_17 : decode jdk_43_method_13_code 17 = .ok (.baload, 1) := by decide +kernel
theorem d3_18 : decode jdk_43_method_13_code 18 = .ok (.aload_n 1, 1) := by decide +kernel
theorem d3_19 : decode jdk_43_method_13_code 19 = .ok (.iload_n 2, 1) := by decide +kernel
theorem d3_20 : decode jdk_43_method_13_code 20 = .ok (.baload, 1) := by decide +kernel
theorem d3_21 : decode jdk_43_method_13_code 21 = .ok (.if_icmp .eq 5, 3) := by decide +kernel
theorem d3_24 : decode jdk_43_method_13_code 24 = .ok (.iconst 0, 1) := by decide +kernel
theorem d3_25 : decode jdk_43_method_13_code 25 = .ok (.ireturn, 1) := by decide +kernel
theorem d3_26 : decode jdk_43_method_13_code 26 = .ok (.iinc 2 1, 3) := by decide +kernel
theorem d3_29 : decode jdk_43_method_13_code 29 = .ok (.goto (-20), 3) := by decide +kernel
theorem d3_32 : decode jdk_43_method_13_code 32 = .ok (.iconst 1, 1) := by decide +kernel
theorem d3_33 : decode jdk_43_method_13_code 33 = .ok (.ireturn, 1) := by decide +kernel
theorem d3_34 : decode jdk_43_method_13_code 34 = .ok (.iconst 0, 1) := by decide +kernel
theorem d3_35 : decode jdk_43_method_13_code 35 = .ok (.ireturn, 1) := by decide +kernel
theorem pn_lat : plainName "java/lang/StringLatin1" = true := by first | (simp [plainName, overriddenIn]; done) | decide +kernel
theorem ef_lat (m : MethodId) (o0 : Addr) (o1 : Addr) : entryFrame m #[(.ref o0), (.ref o1)] 3 = mkF m 0 #[.val (.ref o0), .val (.ref o1), .unset] [] := by first | (simp [entryFrame, mkF, argsToLocals, Value.category]; done) | rfl
set_option maxRecDepth 65536 in
set_option maxHeartbeats 40000000 in
theorem own_latloop {p : Program} {l : Launch} {e : Env} {R : Room} {s : State} {m : MethodId} {args : Array Value} {below : List Frame} {meth : Method} {c : Code} {T0 : State} {locs : List Loc} {cells slots : Nat} {Z : State} {h0 : Heap} (o0 o1 : Addr) (n : Nat) (hn : n ≤ 4000) (f0 f1 : Nat → Int32) (c0 c1 : Cell)
    (X0 : Stand p l e R s m args below meth c T0 locs cells slots) (hx : p.tables.exec = Jvm.exec) (hZ : Z.Warmed39 s.vm) (hby : c.code = jdk_43_method_13_code) (e0 : T0.heap = h0) (A0 : Arr Z h0 o0 c0 .byte) (S0 : c0.slots.size = (Int32.ofNat n).toNatClampNeg) (hat0 : ∀ j, j < n → c0.slots[j]? = some (.int (f0 j))) (A1 : Arr Z h0 o1 c1 .byte) (S1 : c1.slots.size = (Int32.ofNat n).toNatClampNeg) (hat1 : ∀ j, j < n → c1.slots[j]? = some (.int (f1 j))) :
    ∀ (k i : Nat), n - i ≤ k → i ≤ n → (∃ j, i ≤ j ∧ j < n ∧ ¬ f0 j = f1 j ∧ ∀ target, Steps p.tables e below (T0.setTop (mkF m 24 #[.val (.ref o0), .val (.ref o1), .val (.int (Int32.ofNat j))] [])) target → Steps p.tables e below (T0.setTop (mkF m 9 #[.val (.ref o0), .val (.ref o1), .val (.int (Int32.ofNat i))] [])) target) ∨ ((∀ j, i ≤ j → j < n → f0 j = f1 j) ∧ ∀ target, Steps p.tables e below (T0.setTop (mkF m 32 #[.val (.ref o0), .val (.ref o1), .val (.int (Int32.ofNat n))] [])) target → Steps p.tables e below (T0.setTop (mkF m 9 #[.val (.ref o0), .val (.ref o1), .val (.int (Int32.ofNat i))] [])) target) := by
  intro k
  induction k with
  | zero =>
    intro i hk hi
    have h1 : ¬ i < n := by omega
    refine Or.inr ⟨fun j h2 h3 => by omega, fun target kt => ?_⟩
    have hin : i = n := by omega
    rw [← hin] at kt
    show Steps p.tables e below (T0.setTop (mkF m 9 #[.val (.ref o0), .val (.ref o1), .val (.int (Int32.ofNat i))] [])) _
    refine XS.iloadN X0.here hx rfl (hb hby d3_9) rfl ?_
    show Steps p.tables e below (T0.setTop (mkF m 10 #[.val (.ref o0), .val (.ref o1), .val (.int (Int32.ofNat i))] [(.int (Int32.ofNat i))])) _
    refine XS.aloadN X0.here hx rfl (hb hby d3_10) rfl rfl ?_
    show Steps p.tables e below (T0.setTop (mkF m 11 #[.val (.ref o0), .val (.ref o1), .val (.int (Int32.ofNat i))] [(.ref o0), (.int (Int32.ofNat i))])) _
    refine X0.arraylength hx (cell := c0) (by rw [e0]; exact A0.1) (State.isArrayOf_alike hZ.alike A0.2.1) (g := (mkF m 11 #[.val (.ref o0), .val (.ref o1), .val (.int (Int32.ofNat i))] [(.ref o0), (.int (Int32.ofNat i))])) rfl (rest := [(.int (Int32.ofNat i))]) rfl (hb hby d3_11) _ ?_
    rw [len_of S0 (own_nn hn)]
    show Steps p.tables e below (T0.setTop (mkF m 12 #[.val (.ref o0), .val (.ref o1), .val (.int (Int32.ofNat i))] [(.int (Int32.ofNat n)), (.int (Int32.ofNat i))])) _
    refine XS.icmpYes X0.here hx rfl (pc0 := 12) (pc' := 32) rfl (hb hby d3_12) rfl (flt (fun q => h1 ((own_lt (by omega) hn).mp q))).2.1 (by decide) (by decide) ?_
    exact kt
  | succ k ih =>
    intro i hk hi
    by_cases h1 : i < n
    · by_cases h2 : (f0 i) = (f1 i)
      · rcases ih (i + 1) (by omega) (by omega) with ⟨j, j1, j2, j3, st⟩ | ⟨hj, st⟩
        · refine Or.inl ⟨j, by omega, j2, j3, fun target kt => ?_⟩
          show Steps p.tables e below (T0.setTop (mkF m 9 #[.val (.ref o0), .val (.ref o1), .val (.int (Int32.ofNat i))] [])) _
          refine XS.iloadN X0.here hx rfl (hb hby d3_9) rfl ?_
          show Steps p.tables e below (T0.setTop (mkF m 10 #[.val (.ref o0), .val (.ref o1), .val (.int (Int32.ofNat i))] [(.int (Int32.ofNat i))])) _
          refine XS.aloadN X0.here hx rfl (hb hby d3_10) rfl rfl ?_
          show Steps p.tables e below (T0.setTop (mkF m 11 #[.val (.ref o0), .val (.ref o1), .val (.int (Int32.ofNat i))] [(.ref o0), (.int (Int32.ofNat i))])) _
          refine X0.arraylength hx (cell := c0) (by rw [e0]; exact A0.1) (State.isArrayOf_alike hZ.alike A0.2.1) (g := (mkF m 11 #[.val (.ref o0), .val (.ref o1), .val (.int (Int32.ofNat i))] [(.ref o0), (.int (Int32.ofNat i))])) rfl (rest := [(.int (Int32.ofNat i))]) rfl (hb hby d3_11) _ ?_
          rw [len_of S0 (own_nn hn)]
          show Steps p.tables e below (T0.setTop (mkF m 12 #[.val (.ref o0), .val (.ref o1), .val (.int (Int32.ofNat i))] [(.int (Int32.ofNat n)), (.int (Int32.ofNat i))])) _
          refine XS.icmpNo X0.here hx rfl (hb hby d3_12) rfl (tlt ((own_lt (by omega) hn).mpr h1)).2.1 ?_
          show Steps p.tables e below (T0.setTop (mkF m 15 #[.val (.ref o0), .val (.ref o1), .val (.int (Int32.ofNat i))] [])) _
          refine XS.aloadN X0.here hx rfl (hb hby d3_15) rfl rfl ?_
          show Steps p.tables e below (T0.setTop (mkF m 16 #[.val (.ref o0), .val (.ref o1), .val (.int (Int32.ofNat i))] [(.ref o0)])) _
          refine XS.iloadN X0.here hx rfl (hb hby d3_16) rfl ?_
          show Steps p.tables e below (T0.setTop (mkF m 17 #[.val (.ref o0), .val (.ref o1), .val (.int (Int32.ofNat i))] [(.int (Int32.ofNat i)), (.ref o0)])) _
          refine X0.baloadBytes hx (j := (Int32.ofNat i)) (v := (.int (f0 i))) (by rw [e0]; exact A0.1) (State.isArrayOf_alike hZ.alike A0.2.1) A0.2.2 (own_in S0 hn h1) (own_at hat0 hn h1) (g := (mkF m 17 #[.val (.ref o0), .val (.ref o1), .val (.int (Int32.ofNat i))] [(.int (Int32.ofNat i)), (.ref o0)])) rfl rfl (hb hby d3_17) _ ?_
          show Steps p.tables e below (T0.setTop (mkF m 18 #[.val (.ref o0), .val (.ref o1), .val (.int (Int32.ofNat i))] [(.int (f0 i))])) _
          refine XS.aloadN X0.here hx rfl (hb hby d3_18) rfl rfl ?_
          show Steps p.tables e below (T0.setTop (mkF m 19 #[.val (.ref o0), .val (.ref o1), .val (.int (Int32.ofNat i))] [(.ref o1), (.int (f0 i))])) _
          refine XS.iloadN X0.here hx rfl (hb hby d3_19) rfl ?_
          show Steps p.tables e below (T0.setTop (mkF m 20 #[.val (.ref o0), .val (.ref o1), .val (.int (Int32.ofNat i))] [(.int (Int32.ofNat i)), (.ref o1), (.int (f0 i))])) _
          refine X0.baloadBytes hx (j := (Int32.ofNat i)) (v := (.int (f1 i))) (by rw [e0]; exact A1.1) (State.isArrayOf_alike hZ.alike A1.2.1) A1.2.2 (own_in S1 hn h1) (own_at hat1 hn h1) (g := (mkF m 20 #[.val (.ref o0), .val (.ref o1), .val (.int (Int32.ofNat i))] [(.int (Int32.ofNat i)), (.ref o1), (.int (f0 i))])) rfl rfl (hb hby d3_20) _ ?_
          show Steps p.tables e below (T0.setTop (mkF m 21 #[.val (.ref o0), .val (.ref o1), .val (.int (Int32.ofNat i))] [(.int (f1 i)), (.int (f0 i))])) _
          refine XS.icmpYes X0.here hx rfl (pc0 := 21) (pc' := 26) rfl (hb hby d3_21) rfl (teq h2).1 (by decide) (by decide) ?_
          show Steps p.tables e below (T0.setTop (mkF m 26 #[.val (.ref o0), .val (.ref o1), .val (.int (Int32.ofNat i))] [])) _
          refine XS.iinc X0.here hx rfl (hb hby d3_26) rfl (l' := #[.val (.ref o0), .val (.ref o1), .val (.int ((Int32.ofNat i) + (1 : Int32)))]) rfl ?_
          rw [own_one]
          show Steps p.tables e below (T0.setTop (mkF m 29 #[.val (.ref o0), .val (.ref o1), .val (.int (Int32.ofNat (i + 1)))] [])) _
          refine XS.goto X0.here hx rfl (pc0 := 29) (pc' := 9) rfl (hb hby d3_29) (by decide) (by decide) ?_
          exact st target kt
        · refine Or.inr ⟨fun j j1 j2 => ?_, fun target kt => ?_⟩
          · by_cases q : i = j
            · subst q; exact h2
            · exact hj j (by omega) j2
          · show Steps p.tables e below (T0.setTop (mkF m 9 #[.val (.ref o0), .val (.ref o1), .val (.int (Int32.ofNat i))] [])) _
            refine XS.iloadN X0.here hx rfl (hb hby d3_9) rfl ?_
            show Steps p.tables e below (T0.setTop (mkF m 10 #[.val (.ref o0), .val (.ref o1), .val (.int (Int32.ofNat i))] [(.int (Int32.ofNat i))])) _
            refine XS.aloadN X0.here hx rfl (hb hby d3_10) rfl rfl ?_
            show Steps p.tables e below (T0.setTop (mkF m 11 #[.val (.ref o0), .val (.ref o1), .val (.int (Int32.ofNat i))] [(.ref o0), (.int (Int32.ofNat i))])) _
            refine X0.arraylength hx (cell := c0) (by rw [e0]; exact A0.1) (State.isArrayOf_alike hZ.alike A0.2.1) (g := (mkF m 11 #[.val (.ref o0), .val (.ref o1), .val (.int (Int32.ofNat i))] [(.ref o0), (.int (Int32.ofNat i))])) rfl (rest := [(.int (Int32.ofNat i))]) rfl (hb hby d3_11) _ ?_
            rw [len_of S0 (own_nn hn)]
            show Steps p.tables e below (T0.setTop (mkF m 12 #[.val (.ref o0), .val (.ref o1), .val (.int (Int32.ofNat i))] [(.int (Int32.ofNat n)), (.int (Int32.ofNat i))])) _
            refine XS.icmpNo X0.here hx rfl (hb hby d3_12) rfl (tlt ((own_lt (by omega) hn).mpr h1)).2.1 ?_
            show Steps p.tables e below (T0.setTop (mkF m 15 #[.val (.ref o0), .val (.ref o1), .val (.int (Int32.ofNat i))] [])) _
            refine XS.aloadN X0.here hx rfl (hb hby d3_15) rfl rfl ?_
            show Steps p.tables e below (T0.setTop (mkF m 16 #[.val (.ref o0), .val (.ref o1), .val (.int (Int32.ofNat i))] [(.ref o0)])) _
            refine XS.iloadN X0.here hx rfl (hb hby d3_16) rfl ?_
            show Steps p.tables e below (T0.setTop (mkF m 17 #[.val (.ref o0), .val (.ref o1), .val (.int (Int32.ofNat i))] [(.int (Int32.ofNat i)), (.ref o0)])) _
            refine X0.baloadBytes hx (j := (Int32.ofNat i)) (v := (.int (f0 i))) (by rw [e0]; exact A0.1) (State.isArrayOf_alike hZ.alike A0.2.1) A0.2.2 (own_in S0 hn h1) (own_at hat0 hn h1) (g := (mkF m 17 #[.val (.ref o0), .val (.ref o1), .val (.int (Int32.ofNat i))] [(.int (Int32.ofNat i)), (.ref o0)])) rfl rfl (hb hby d3_17) _ ?_
            show Steps p.tables e below (T0.setTop (mkF m 18 #[.val (.ref o0), .val (.ref o1), .val (.int (Int32.ofNat i))] [(.int (f0 i))])) _
            refine XS.aloadN X0.here hx rfl (hb hby d3_18) rfl rfl ?_
            show Steps p.tables e below (T0.setTop (mkF m 19 #[.val (.ref o0), .val (.ref o1), .val (.int (Int32.ofNat i))] [(.ref o1), (.int (f0 i))])) _
            refine XS.iloadN X0.here hx rfl (hb hby d3_19) rfl ?_
            show Steps p.tables e below (T0.setTop (mkF m 20 #[.val (.ref o0), .val (.ref o1), .val (.int (Int32.ofNat i))] [(.int (Int32.ofNat i)), (.ref o1), (.int (f0 i))])) _
            refine X0.baloadBytes hx (j := (Int32.ofNat i)) (v := (.int (f1 i))) (by rw [e0]; exact A1.1) (State.isArrayOf_alike hZ.alike A1.2.1) A1.2.2 (own_in S1 hn h1) (own_at hat1 hn h1) (g := (mkF m 20 #[.val (.ref o0), .val (.ref o1), .val (.int (Int32.ofNat i))] [(.int (Int32.ofNat i)), (.ref o1), (.int (f0 i))])) rfl rfl (hb hby d3_20) _ ?_
            show Steps p.tables e below (T0.setTop (mkF m 21 #[.val (.ref o0), .val (.ref o1), .val (.int (Int32.ofNat i))] [(.int (f1 i)), (.int (f0 i))])) _
            refine XS.icmpYes X0.here hx rfl (pc0 := 21) (pc' := 26) rfl (hb hby d3_21) rfl (teq h2).1 (by decide) (by decide) ?_
            show Steps p.tables e below (T0.setTop (mkF m 26 #[.val (.ref o0), .val (.ref o1), .val (.int (Int32.ofNat i))] [])) _
            refine XS.iinc X0.here hx rfl (hb hby d3_26) rfl (l' := #[.val (.ref o0), .val (.ref o1), .val (.int ((Int32.ofNat i) + (1 : Int32)))]) rfl ?_
            rw [own_one]
            show Steps p.tables e below (T0.setTop (mkF m 29 #[.val (.ref o0), .val (.ref o1), .val (.int (Int32.ofNat (i + 1)))] [])) _
            refine XS.goto X0.here hx rfl (pc0 := 29) (pc' := 9) rfl (hb hby d3_29) (by decide) (by decide) ?_
            exact st target kt
      · refine Or.inl ⟨i, Nat.le_refl _, h1, h2, fun target kt => ?_⟩
        show Steps p.tables e below (T0.setTop (mkF m 9 #[.val (.ref o0), .val (.ref o1), .val (.int (Int32.ofNat i))] [])) _
        refine XS.iloadN X0.here hx rfl (hb hby d3_9) rfl ?_
        show Steps p.tables e below (T0.setTop (mkF m 10 #[.val (.ref o0), .val (.ref o1), .val (.int (Int32.ofNat i))] [(.int (Int32.ofNat i))])) _
        refine XS.aloadN X0.here hx rfl (hb hby d3_10) rfl rfl ?_
        show Steps p.tables e below (T0.setTop (mkF m 11 #[.val (.ref o0), .val (.ref o1), .val (.int (Int32.ofNat i))] [(.ref o0), (.int (Int32.ofNat i))])) _
        refine X0.arraylength hx (cell := c0) (by rw [e0]; exact A0.1) (State.isArrayOf_alike hZ.alike A0.2.1) (g := (mkF m 11 #[.val (.ref o0), .val (.ref o1), .val (.int (Int32.ofNat i))] [(.ref o0), (.int (Int32.ofNat i))])) rfl (rest := [(.int (Int32.ofNat i))]) rfl (hb hby d3_11) _ ?_
        rw [len_of S0 (own_nn hn)]
        show Steps p.tables e below (T0.setTop (mkF m 12 #[.val (.ref o0), .val (.ref o1), .val (.int (Int32.ofNat i))] [(.int (Int32.ofNat n)), (.int (Int32.ofNat i))])) _
        refine XS.icmpNo X0.here hx rfl (hb hby d3_12) rfl (tlt ((own_lt (by omega) hn).mpr h1)).2.1 ?_
        show Steps p.tables e below (T0.setTop (mkF m 15 #[.val (.ref o0), .val (.ref o1), .val (.int (Int32.ofNat i))] [])) _
        refine XS.aloadN X0.here hx rfl (hb hby d3_15) rfl rfl ?_
        show Steps p.tables e below (T0.setTop (mkF m 16 #[.val (.ref o0), .val (.ref o1), .val (.int (Int32.ofNat i))] [(.ref o0)])) _
        refine XS.iloadN X0.here hx rfl (hb hby d3_16) rfl ?_
        show Steps p.tables e below (T0.setTop (mkF m 17 #[.val (.ref o0), .val (.ref o1), .val (.int (Int32.ofNat i))] [(.int (Int32.ofNat i)), (.ref o0)])) _
        refine X0.baloadBytes hx (j := (Int32.ofNat i)) (v := (.int (f0 i))) (by rw [e0]; exact A0.1) (State.isArrayOf_alike hZ.alike A0.2.1) A0.2.2 (own_in S0 hn h1) (own_at hat0 hn h1) (g := (mkF m 17 #[.val (.ref o0), .val (.ref o1), .val (.int (Int32.ofNat i))] [(.int (Int32.ofNat i)), (.ref o0)])) rfl rfl (hb hby d3_17) _ ?_
        show Steps p.tables e below (T0.setTop (mkF m 18 #[.val (.ref o0), .val (.ref o1), .val (.int (Int32.ofNat i))] [(.int (f0 i))])) _
        refine XS.aloadN X0.here hx rfl (hb hby d3_18) rfl rfl ?_
        show Steps p.tables e below (T0.setTop (mkF m 19 #[.val (.ref o0), .val (.ref o1), .val (.int (Int32.ofNat i))] [(.ref o1), (.int (f0 i))])) _
        refine XS.iloadN X0.here hx rfl (hb hby d3_19) rfl ?_
        show Steps p.tables e below (T0.setTop (mkF m 20 #[.val (.ref o0), .val (.ref o1), .val (.int (Int32.ofNat i))] [(.int (Int32.ofNat i)), (.ref o1), (.int (f0 i))])) _
        refine X0.baloadBytes hx (j := (Int32.ofNat i)) (v := (.int (f1 i))) (by rw [e0]; exact A1.1) (State.isArrayOf_alike hZ.alike A1.2.1) A1.2.2 (own_in S1 hn h1) (own_at hat1 hn h1) (g := (mkF m 20 #[.val (.ref o0), .val (.ref o1), .val (.int (Int32.ofNat i))] [(.int (Int32.ofNat i)), (.ref o1), (.int (f0 i))])) rfl rfl (hb hby d3_20) _ ?_
        show Steps p.tables e below (T0.setTop (mkF m 21 #[.val (.ref o0), .val (.ref o1), .val (.int (Int32.ofNat i))] [(.int (f1 i)), (.int (f0 i))])) _
        refine XS.icmpNo X0.here hx rfl (hb hby d3_21) rfl (feq h2).1 ?_
        exact kt
    · refine Or.inr ⟨fun j h2 h3 => by omega, fun target kt => ?_⟩
      have hin : i = n := by omega
      rw [← hin] at kt
      show Steps p.tables e below (T0.setTop (mkF m 9 #[.val (.ref o0), .val (.ref o1), .val (.int (Int32.ofNat i))] [])) _
      refine XS.iloadN X0.here hx rfl (hb hby d3_9) rfl ?_
      show Steps p.tables e below (T0.setTop (mkF m 10 #[.val (.ref o0), .val (.ref o1), .val (.int (Int32.ofNat i))] [(.int (Int32.ofNat i))])) _
      refine XS.aloadN X0.here hx rfl (hb hby d3_10) rfl rfl ?_
      show Steps p.tables e below (T0.setTop (mkF m 11 #[.val (.ref o0), .val (.ref o1), .val (.int (Int32.ofNat i))] [(.ref o0), (.int (Int32.ofNat i))])) _
      refine X0.arraylength hx (cell := c0) (by rw [e0]; exact A0.1) (State.isArrayOf_alike hZ.alike A0.2.1) (g := (mkF m 11 #[.val (.ref o0), .val (.ref o1), .val (.int (Int32.ofNat i))] [(.ref o0), (.int (Int32.ofNat i))])) rfl (rest := [(.int (Int32.ofNat i))]) rfl (hb hby d3_11) _ ?_
      rw [len_of S0 (own_nn hn)]
      show Steps p.tables e below (T0.setTop (mkF m 12 #[.val (.ref o0), .val (.ref o1), .val (.int (Int32.ofNat i))] [(.int (Int32.ofNat n)), (.int (Int32.ofNat i))])) _
      refine XS.icmpYes X0.here hx rfl (pc0 := 12) (pc' := 32) rfl (hb hby d3_12) rfl (flt (fun q => h1 ((own_lt (by omega) hn).mp q))).2.1 (by decide) (by decide) ?_
      exact kt
def Q_lat (Z : State) (o0 o1 : Addr) (k0 k1 : ClassId) (bs0 bs1 : List Int32) (h0 : Heap) (n0 : Nat) (v : Option Value) (h : Heap) (L : List Loc) : Prop := v = some (.int (own_eqI bs0 bs1)) ∧ Fr n0 L ∧ h = h0
set_option maxRecDepth 65536 in
set_option maxHeartbeats 40000000 in
theorem rm_lat (l : Launch) (Z : State) (a0 : Array Value) (hw : ∀ d ∈ tables_1, d.before a0 Z = true) (ws : List Jvm.Cond) (o0 o1 : Addr) (k0 k1 : ClassId) (bs0 bs1 : List Int32) (h0 : Heap) (n0 : Nat) (Z0 : n0 ≤ h0.size) (hb0 : bs0.length ≤ 4000) (hb1 : bs1.length ≤ 4000) (K0 : Arv Z h0 o0 k0 .byte (Int32.ofNat bs0.length) (bs0.map Value.int) (.int (0 : Int32))) (K1 : Arv Z h0 o1 k1 .byte (Int32.ofNat bs1.length) (bs1.map Value.int) (.int (0 : Int32))) :
    MetFree l (⟨"java/lang/StringLatin1", "equals", "([B[B)Z"⟩ : MethodName) (head1 (Jvm.Cond.code (⟨"java/lang/StringLatin1", "equals", "([B[B)Z"⟩ : MethodName) jdk_43_method_13_code 3 (some .boolean) :: ws) ({ frames := 0, cells := 0, slots := 0, locals := 0 } : Room)) (fun a U => a = #[(.ref o0), (.ref o1)] ∧ Z.Warmed39 U.vm ∧ U.heap = h0) (fun _ _ _ _ _ => True) (fun _ U o U' => ∃ v L, o = .returned v ∧ Q_lat Z o0 o1 k0 k1 bs0 bs1 h0 n0 v U'.heap L ∧ FrameEnd U o U' L ({ frames := 0, cells := 0, slots := 0, locals := 0 } : Room).cells ({ frames := 0, cells := 0, slots := 0, locals := 0 } : Room).slots) := by
  refine MetFree.of_bodySF (plainFor_of_name pn_lat) hisR ?_
  intro p e s m args below meth c s₁ Bd hml0 hP hK
  obtain ⟨rfl, hZ, hh⟩ := hP
  have hx := Bd.exec
  have hby := Bd.bytes
  have hml : c.maxLocals = 3 := hml0
  have hown : s.vm.findClass "java/lang/StringLatin1" = some m.cls := findClass_of_methodNamed Bd.named
  have hnm := (name_of_methodNamed Bd.named Bd.method).1
  have X0 : Stand p l e ({ frames := 0, cells := 0, slots := 0, locals := 0 } : Room) s m #[(.ref o0), (.ref o1)] below meth c s₁ [] 0 0 := Stand.of_body Bd
  have e0 : s₁.heap = h0 := by rw [← hh, Bd.state]; rfl
  have N0 := Fr.nil n0
  have pre0 : ∀ tg, Steps p.tables e below (s₁.setTop (mkF m 0 #[.val (.ref o0), .val (.ref o1), .unset] [])) tg → Steps p.tables e below (s₁.setTop (entryFrame m #[(.ref o0), (.ref o1)] 3)) tg := fun tg kg => castTop (ef_lat m o0 o1) kg
  obtain ⟨c0, A0, -, S0, M0, H0, -⟩ := K0
  obtain ⟨c1, A1, -, S1, M1, H1, -⟩ := K1
  by_cases hl : bs0.length = bs1.length
  · have hat0 : ∀ j, j < bs0.length → c0.slots[j]? = some (.int (bs0.getD j 0)) := fun j hj => by rw [← own_getD]; exact H0 j (by rw [S0, own_n32 hb0]; exact hj)
    have hat1 : ∀ j, j < bs0.length → c1.slots[j]? = some (.int (bs1.getD j 0)) := fun j hj => by rw [← own_getD]; exact H1 j (by rw [S1, own_n32 hb1]; omega)
    rcases own_latloop o0 o1 bs0.length hb0 (fun j => bs0.getD j 0) (fun j => bs1.getD j 0) c0 c1 X0 hx hZ hby e0 A0 S0 hat0 A1 (by rw [hl]; exact S1) hat1 bs0.length 0 (by omega) (by omega) with ⟨j, j1, j2, j3, st⟩ | ⟨hj0, st⟩
    · have hf : own_eqI bs0 bs1 = (0 : Int32) := by unfold own_eqI; rw [if_neg (fun q => j3 (by rw [q]))]
      obtain ⟨fs, hr, hrun, hended, hW, hsame⟩ := X0.leave (v := some (.int (0 : Int32))) (fun h => by rw [Bd.returns] at h; cases h)
      refine ⟨_, _, pre0 _ ?_, hrun, hended, _, _, rfl, ?_, ⟨_, rfl⟩, hW, hsame.mono (by decide) (by decide)⟩
      · show Steps p.tables e below (s₁.setTop (mkF m 0 #[.val (.ref o0), .val (.ref o1), .unset] [])) _
        refine XS.aloadN X0.here hx rfl (hb hby d3_0) rfl rfl ?_
        show Steps p.tables e below (s₁.setTop (mkF m 1 #[.val (.ref o0), .val (.ref o1), .unset] [(.ref o0)])) _
        refine X0.arraylength hx (cell := c0) (by rw [e0]; exact A0.1) (State.isArrayOf_alike hZ.alike A0.2.1) (g := (mkF m 1 #[.val (.ref o0), .val (.ref o1), .unset] [(.ref o0)])) rfl (rest := []) rfl (hb hby d3_1) _ ?_
        rw [len_of S0 M0]
        show Steps p.tables e below (s₁.setTop (mkF m 2 #[.val (.ref o0), .val (.ref o1), .unset] [(.int (Int32.ofNat bs0.length))])) _
        refine XS.aloadN X0.here hx rfl (hb hby d3_2) rfl rfl ?_
        show Steps p.tables e below (s₁.setTop (mkF m 3 #[.val (.ref o0), .val (.ref o1), .unset] [(.ref o1), (.int (Int32.ofNat bs0.length))])) _
        refine X0.arraylength hx (cell := c1) (by rw [e0]; exact A1.1) (State.isArrayOf_alike hZ.alike A1.2.1) (g := (mkF m 3 #[.val (.ref o0), .val (.ref o1), .unset] [(.ref o1), (.int (Int32.ofNat bs0.length))])) rfl (rest := [(.int (Int32.ofNat bs0.length))]) rfl (hb hby d3_3) _ ?_
        rw [len_of S1 M1]
        show Steps p.tables e below (s₁.setTop (mkF m 4 #[.val (.ref o0), .val (.ref o1), .unset] [(.int (Int32.ofNat bs1.length)), (.int (Int32.ofNat bs0.length))])) _
        refine XS.icmpNo X0.here hx rfl (hb hby d3_4) rfl (teq ((own_inj hb0 hb1).mpr hl)).2 ?_
        show Steps p.tables e below (s₁.setTop (mkF m 7 #[.val (.ref o0), .val (.ref o1), .unset] [])) _
        refine XS.iconst X0.here hx rfl (hb hby d3_7) ?_
        show Steps p.tables e below (s₁.setTop (mkF m 8 #[.val (.ref o0), .val (.ref o1), .unset] [(.int (0 : Int32))])) _
        refine XS.istoreN X0.here hx rfl (hb hby d3_8) rfl (l' := #[.val (.ref o0), .val (.ref o1), .val (.int (0 : Int32))]) rfl ?_
        show Steps p.tables e below (s₁.setTop (mkF m 9 #[.val (.ref o0), .val (.ref o1), .val (.int (Int32.ofNat 0))] [])) _
        refine st _ ?_
        show Steps p.tables e below (s₁.setTop (mkF m 24 #[.val (.ref o0), .val (.ref o1), .val (.int (Int32.ofNat j))] [])) _
        refine XS.iconst X0.here hx rfl (hb hby d3_24) ?_
        show Steps p.tables e below (s₁.setTop (mkF m 25 #[.val (.ref o0), .val (.ref o1), .val (.int (Int32.ofNat j))] [(.int (0 : Int32))])) _
        exact retN X0 hx (t := .boolean) Bd.returns (by simp) (hb hby d3_25) hr
      · show Q_lat Z o0 o1 k0 k1 bs0 bs1 h0 n0 _ s₁.heap _
        rw [e0]
        exact ⟨by rw [hf], N0, rfl⟩
    · have hf : own_eqI bs0 bs1 = (1 : Int32) := by unfold own_eqI; rw [if_pos (own_ext hl (fun j hj => hj0 j (Nat.zero_le _) hj))]
      obtain ⟨fs, hr, hrun, hended, hW, hsame⟩ := X0.leave (v := some (.int (1 : Int32))) (fun h => by rw [Bd.returns] at h; cases h)
      refine ⟨_, _, pre0 _ ?_, hrun, hended, _, _, rfl, ?_, ⟨_, rfl⟩, hW, hsame.mono (by decide) (by decide)⟩
      · show Steps p.tables e below (s₁.setTop (mkF m 0 #[.val (.ref o0), .val (.ref o1), .unset] [])) _
        refine XS.aloadN X0.here hx rfl (hb hby d3_0) rfl rfl ?_
        show Steps p.tables e below (s₁.setTop (mkF m 1 #[.val (.ref o0), .val (.ref o1), .unset] [(.ref o0)])) _
        refine X0.arraylength hx (cell := c0) (by rw [e0]; exact A0.1) (State.isArrayOf_alike hZ.alike A0.2.1) (g := (mkF m 1 #[.val (.ref o0), .val (.ref o1), .unset] [(.ref o0)])) rfl (rest := []) rfl (hb hby d3_1) _ ?_
        rw [len_of S0 M0]
        show Steps p.tables e below (s₁.setTop (mkF m 2 #[.val (.ref o0), .val (.ref o1), .unset] [(.int (Int32.ofNat bs0.length))])) _
        refine XS.aloadN X0.here hx rfl (hb hby d3_2) rfl rfl ?_
        show Steps p.tables e below (s₁.setTop (mkF m 3 #[.val (.ref o0), .val (.ref o1), .unset] [(.ref o1), (.int (Int32.ofNat bs0.length))])) _
        refine X0.arraylength hx (cell := c1) (by rw [e0]; exact A1.1) (State.isArrayOf_alike hZ.alike A1.2.1) (g := (mkF m 3 #[.val (.ref o0), .val (.ref o1), .unset] [(.ref o1), (.int (Int32.ofNat bs0.length))])) rfl (rest := [(.int (Int32.ofNat bs0.length))]) rfl (hb hby d3_3) _ ?_
        rw [len_of S1 M1]
        show Steps p.tables e below (s₁.setTop (mkF m 4 #[.val (.ref o0), .val (.ref o1), .unset] [(.int (Int32.ofNat bs1.length)), (.int (Int32.ofNat bs0.length))])) _
        refine XS.icmpNo X0.here hx rfl (hb hby d3_4) rfl (teq ((own_inj hb0 hb1).mpr hl)).2 ?_
        show Steps p.tables e below (s₁.setTop (mkF m 7 #[.val (.ref o0), .val (.ref o1), .unset] [])) _
        refine XS.iconst X0.here hx rfl (hb hby d3_7) ?_
        show Steps p.tables e below (s₁.setTop (mkF m 8 #[.val (.ref o0), .val (.ref o1), .unset] [(.int (0 : Int32))])) _
        refine XS.istoreN X0.here hx rfl (hb hby d3_8) rfl (l' := #[.val (.ref o0), .val (.ref o1), .val (.int (0 : Int32))]) rfl ?_
        show Steps p.tables e below (s₁.setTop (mkF m 9 #[.val (.ref o0), .val (.ref o1), .val (.int (Int32.ofNat 0))] [])) _
        refine st _ ?_
        show Steps p.tables e below (s₁.setTop (mkF m 32 #[.val (.ref o0), .val (.ref o1), .val (.int (Int32.ofNat bs0.length))] [])) _
        refine XS.iconst X0.here hx rfl (hb hby d3_32) ?_
        show Steps p.tables e below (s₁.setTop (mkF m 33 #[.val (.ref o0), .val (.ref o1), .val (.int (Int32.ofNat bs0.length))] [(.int (1 : Int32))])) _
        exact retN X0 hx (t := .boolean) Bd.returns (by simp) (hb hby d3_33) hr
      · show Q_lat Z o0 o1 k0 k1 bs0 bs1 h0 n0 _ s₁.heap _
        rw [e0]
        exact ⟨by rw [hf], N0, rfl⟩
  · have hf : own_eqI bs0 bs1 = (0 : Int32) := by unfold own_eqI; rw [if_neg (fun q => hl (by rw [q]))]
    obtain ⟨fs, hr, hrun, hended, hW, hsame⟩ := X0.leave (v := some (.int (0 : Int32))) (fun h => by rw [Bd.returns] at h; cases h)
    refine ⟨_, _, pre0 _ ?_, hrun, hended, _, _, rfl, ?_, ⟨_, rfl⟩, hW, hsame.mono (by decide) (by decide)⟩
    · show Steps p.tables e below (s₁.setTop (mkF m 0 #[.val (.ref o0), .val (.ref o1), .unset] [])) _
      refine XS.aloadN X0.here hx rfl (hb hby d3_0) rfl rfl ?_
      show Steps p.tables e below (s₁.setTop (mkF m 1 #[.val (.ref o0), .val (.ref o1), .unset] [(.ref o0)])) _
      refine X0.arraylength hx (cell := c0) (by rw [e0]; exact A0.1) (State.isArrayOf_alike hZ.alike A0.2.1) (g := (mkF m 1 #[.val (.ref o0), .val (.ref o1), .unset] [(.ref o0)])) rfl (rest := []) rfl (hb hby d3_1) _ ?_
      rw [len_of S0 M0]
      show Steps p.tables e below (s₁.setTop (mkF m 2 #[.val (.ref o0), .val (.ref o1), .unset] [(.int (Int32.ofNat bs0.length))])) _
      refine XS.aloadN X0.here hx rfl (hb hby d3_2) rfl rfl ?_
      show Steps p.tables e below (s₁.setTop (mkF m 3 #[.val (.ref o0), .val (.ref o1), .unset] [(.ref o1), (.int (Int32.ofNat bs0.length))])) _
      refine X0.arraylength hx (cell := c1) (by rw [e0]; exact A1.1) (State.isArrayOf_alike hZ.alike A1.2.1) (g := (mkF m 3 #[.val (.ref o0), .val (.ref o1), .unset] [(.ref o1), (.int (Int32.ofNat bs0.length))])) rfl (rest := [(.int (Int32.ofNat bs0.length))]) rfl (hb hby d3_3) _ ?_
      rw [len_of S1 M1]
      show Steps p.tables e below (s₁.setTop (mkF m 4 #[.val (.ref o0), .val (.ref o1), .unset] [(.int (Int32.ofNat bs1.length)), (.int (Int32.ofNat bs0.length))])) _
      refine XS.icmpYes X0.here hx rfl (pc0 := 4) (pc' := 34) rfl (hb hby d3_4) rfl (feq (fun q => hl ((own_inj hb0 hb1).mp q))).2 (by decide) (by decide) ?_
      show Steps p.tables e below (s₁.setTop (mkF m 34 #[.val (.ref o0), .val (.ref o1), .unset] [])) _
      refine XS.iconst X0.here hx rfl (hb hby d3_34) ?_
      show Steps p.tables e below (s₁.setTop (mkF m 35 #[.val (.ref o0), .val (.ref o1), .unset] [(.int (0 : Int32))])) _
      exact retN X0 hx (t := .boolean) Bd.returns (by simp) (hb hby d3_35) hr
    · show Q_lat Z o0 o1 k0 k1 bs0 bs1 h0 n0 _ s₁.heap _
      rw [e0]
      exact ⟨by rw [hf], N0, rfl⟩
theorem d1_0 : decode jdk_42_method_66_code 0 = .ok (.aload_n 0, 1) := by decide +kernel
theorem d1_1 : decode jdk_42_method_66_code 1 = .ok (.aload_n 1, 1) := by decide +kernel
theorem d1_2 : decode jdk_42_method_66_code 2 = .ok (.if_acmp .ne 5, 3) := by decide +kernel
theorem d1_5 : decode jdk_42_method_66_code 5 = .ok (.iconst 1, 1) := by decide +kernel
theorem d1_6 : decode jdk_42_method_66_code 6 = .ok (.ireturn, 1) := by decide +kernel
theorem d1_7 : decode jdk_42_method_66_code 7 = .ok (.aload_n 1, 1) := by decide +kernel
theorem d1_8 : decode jdk_42_method_66_code 8 = .ok (.instanceof 10, 3) := by decide +kernel
theorem d1_11 : decode jdk_42_method_66_code 11 = .ok (.ifCond .eq 43, 3) := by decide +kernel
theorem d1_14 : decode jdk_42_method_66_code 14 = .ok (.aload_n 1, 1) := by decide +kernel
theorem d1_15 : decode jdk_42_method_66_code 15 = .ok (.checkcast 10, 3) := by decide +kernel
theorem d1_18 : decode jdk_42_method_66_code 18 = .ok (.astore_n 2, 1) := by decide +kernel
theorem d1_19 : decode jdk_42_method_66_code 19 = .ok (.getstatic 38, 3) := by decide +kernel
theorem d1_22 : decode jdk_42_method_66_code 22 = .ok (.ifCond .eq 14, 3) := by decide +kernel
theorem d1_25 : decode jdk_42_method_66_code 25 = .ok (.aload_n 0, 1) := by decide +kernel
theorem d1_26 : decode jdk_42_method_66_code 26 = .ok (.getfield 15, 3) := by decide +kernel
theorem d1_29 : decode jdk_42_method_66_code 29 = .ok (.aload_n 2, 1) := by decide +kernel
theorem d1_30 : decode jdk_42_method_66_code 30 = .ok (.getfield 15, 3) := by decide +kernel
theorem d1_33 : decode jdk_42_method_66_code 33 = .ok (.if_icmp .ne 21, 3) := by decide +kernel
theorem d1_36 : decode jdk_42_method_66_code 36 = .ok (.aload_n 0, 1) := by decide +kernel
theorem d1_37 : decode jdk_42_method_66_code 37 = .ok (.getfield 9, 3) := by decide +kernel
theorem d1_40 : decode jdk_42_method_66_code 40 = .ok (.aload_n 2, 1) := by decide +kernel
theorem d1_41 : decode jdk_42_method_66_code 41 = .ok (.getfield 9, 3) := by decide +kernel
theorem d1_44 : decode jdk_42_method_66_code 44 = .ok (.invokestatic 541, 3) := by decide +kernel
theorem d1_47 : decode jdk_42_method_66_code 47 = .ok (.ifCond .eq 7, 3) := by decide +kernel
theorem d1_50 : decode jdk_42_method_66_code 50 = .ok (.iconst 1, 1) := by decide +kernel
theorem d1_51 : decode jdk_42_method_66_code 51 = .ok (.goto 4, 3) := by decide +kernel
theorem d1_54 : decode jdk_42_method_66_code 54 = .ok (.iconst 0, 1) := by decide +kernel
theorem d1_55 : decode jdk_42_method_66_code 55 = .ok (.ireturn, 1) := by decide +kernel
theorem pn_eqs : plainName "java/lang/String" = true := by first | (simp [plainName, overriddenIn]; done) | decide +kernel
theorem pd_eqs_0 : parseMethodDescriptor "([B[B)Z" = some ⟨[(.array .byte), (.array .byte)], some .boolean⟩ := by decide +kernel
theorem ef_eqs (m : MethodId) (o0 : Addr) (o1 : Addr) : entryFrame m #[(.ref o0), (.ref o1)] 3 = mkF m 0 #[.val (.ref o0), .val (.ref o1), .unset] [] := by first | (simp [entryFrame, mkF, argsToLocals, Value.category]; done) | rfl
def Q_eqs (Z : State) (o0 o1 b0 b1 : Addr) (k0 k1 : ClassId) (bs0 bs1 : List Int32) (iC : Int32) (h0 : Heap) (n0 : Nat) (v : Option Value) (h : Heap) (L : List Loc) : Prop := v = some (.int (own_eqI bs0 bs1)) ∧ Fr n0 L ∧ h = h0
set_option maxRecDepth 65536 in
set_option maxHeartbeats 40000000 in
theorem rm_eqs (l : Launch) (Z : State) (a0 : Array Value) (hw : ∀ d ∈ tables_1, d.before a0 Z = true) (ws : List Jvm.Cond) (o0 o1 b0 b1 : Addr) (k0 k1 : ClassId) (bs0 bs1 : List Int32) (iC : Int32) (h0 : Heap) (n0 : Nat) (Z0 : n0 ≤ h0.size) (hb0 : bs0.length ≤ 4000) (hb1 : bs1.length ≤ 4000) (E0 : Exa Z h0 o0 "java/lang/String") (C0 : Fld Z h0 o0 "java/lang/String" "coder" "B" (.int (0 : Int32))) (V0 : Fld Z h0 o0 "java/lang/String" "value" "[B" (.ref b0)) (K0 : Arv Z h0 b0 k0 .byte (Int32.ofNat bs0.length) (bs0.map Value.int) (.int (0 : Int32))) (E1 : Exa Z h0 o1 "java/lang/String") (C1 : Fld Z h0 o1 "java/lang/String" "coder" "B" (.int (0 : Int32))) (V1 : Fld Z h0 o1 "java/lang/String" "value" "[B" (.ref b1)) (K1 : Arv Z h0 b1 k1 .byte (Int32.ofNat bs1.length) (bs1.map Value.int) (.int (0 : Int32))) (S_C : Sta Z h0 "java/lang/String" "COMPACT_STRINGS" "Z" (.int iC)) (hC : ¬ (iC = (0 : Int32))) :
    MetFree l (⟨"java/lang/String", "equals", "(Ljava/lang/Object;)Z"⟩ : MethodName) (head1 (Jvm.Cond.code (⟨"java/lang/String", "equals", "(Ljava/lang/Object;)Z"⟩ : MethodName) jdk_42_method_66_code 3 (some .boolean) :: ws) ({ frames := 1, cells := 0, slots := 0, locals := 14 } : Room)) (fun a U => a = #[(.ref o0), (.ref o1)] ∧ Z.Warmed39 U.vm ∧ U.heap = h0) (fun _ _ _ _ _ => True) (fun _ U o U' => ∃ v L, o = .returned v ∧ Q_eqs Z o0 o1 b0 b1 k0 k1 bs0 bs1 iC h0 n0 v U'.heap L ∧ FrameEnd U o U' L ({ frames := 1, cells := 0, slots := 0, locals := 14 } : Room).cells ({ frames := 1, cells := 0, slots := 0, locals := 14 } : Room).slots) := by
  refine MetFree.of_bodySF (plainFor_of_name pn_eqs) hisR ?_
  intro p e s m args below meth c s₁ Bd hml0 hP hK
  obtain ⟨rfl, hZ, hh⟩ := hP
  have hx := Bd.exec
  have hby := Bd.bytes
  have hml : c.maxLocals = 3 := hml0
  have hown : s.vm.findClass "java/lang/String" = some m.cls := findClass_of_methodNamed Bd.named
  have hnm := (name_of_methodNamed Bd.named Bd.method).1
  have X0 : Stand p l e ({ frames := 1, cells := 0, slots := 0, locals := 14 } : Room) s m #[(.ref o0), (.ref o1)] below meth c s₁ [] 0 0 := Stand.of_body Bd
  have e0 : s₁.heap = h0 := by rw [← hh, Bd.state]; rfl
  have N0 := Fr.nil n0
  have pre0 : ∀ tg, Steps p.tables e below (s₁.setTop (mkF m 0 #[.val (.ref o0), .val (.ref o1), .unset] [])) tg → Steps p.tables e below (s₁.setTop (entryFrame m #[(.ref o0), (.ref o1)] 3)) tg := fun tg kg => castTop (ef_eqs m o0 o1) kg
  by_cases ho : o0 = o1
  · have V1' := V1
    rw [← ho] at V1'
    have hf : own_eqI bs0 bs1 = (1 : Int32) := by unfold own_eqI; rw [if_pos (own_same V0 V1' K0 K1 hb0 hb1)]
    obtain ⟨fs, hr, hrun, hended, hW, hsame⟩ := X0.leave (v := some (.int (1 : Int32))) (fun h => by rw [Bd.returns] at h; cases h)
    refine ⟨_, _, pre0 _ ?_, hrun, hended, _, _, rfl, ?_, ⟨_, rfl⟩, hW, hsame.mono (by decide) (by decide)⟩
    · show Steps p.tables e below (s₁.setTop (mkF m 0 #[.val (.ref o0), .val (.ref o1), .unset] [])) _
      refine XS.aloadN X0.here hx rfl (hb hby d1_0) rfl rfl ?_
      show Steps p.tables e below (s₁.setTop (mkF m 1 #[.val (.ref o0), .val (.ref o1), .unset] [(.ref o0)])) _
      refine XS.aloadN X0.here hx rfl (hb hby d1_1) rfl rfl ?_
      show Steps p.tables e below (s₁.setTop (mkF m 2 #[.val (.ref o0), .val (.ref o1), .unset] [(.ref o1), (.ref o0)])) _
      refine Jvm.RoadKit.acmp (g := (mkF m 2 #[.val (.ref o0), .val (.ref o1), .unset] [(.ref o1), (.ref o0)])) X0 hx rfl rfl rfl (pc0 := 2) (pc' := 5) (same := true) rfl (hb hby d1_2) rfl (decide_eq_true (congrArg Value.ref ho)) (by decide) (by decide) ?_
      show Steps p.tables e below (s₁.setTop (mkF m 5 #[.val (.ref o0), .val (.ref o1), .unset] [])) _
      refine XS.iconst X0.here hx rfl (hb hby d1_5) ?_
      show Steps p.tables e below (s₁.setTop (mkF m 6 #[.val (.ref o0), .val (.ref o1), .unset] [(.int (1 : Int32))])) _
      exact retN X0 hx (t := .boolean) Bd.returns (by simp) (hb hby d1_6) hr
    · show Q_eqs Z o0 o1 b0 b1 k0 k1 bs0 bs1 iC h0 n0 _ s₁.heap _
      rw [e0]
      exact ⟨by rw [hf], N0, rfl⟩
  · by_cases hq : bs0 = bs1
    · have hf : own_eqI bs0 bs1 = (1 : Int32) := by unfold own_eqI; rw [if_pos hq]
      obtain ⟨Tr1, Xr1, er1, str1⟩ := instY X0 hx hZ hown (hw _ (List.mem_of_getElem? (i := 24) rfl)) e0 (Ins.self E1) (g := (mkF m 8 #[.val (.ref o0), .val (.ref o1), .unset] [(.ref o1)])) rfl rfl (hb hby d1_8)
      obtain ⟨Tr2, Xr2, er2, str2⟩ := castY Xr1 hx hZ hown (hw _ (List.mem_of_getElem? (i := 24) rfl)) er1 (Ins.self E1) (g := (mkF m 15 #[.val (.ref o0), .val (.ref o1), .unset] [(.ref o1)])) rfl rfl (hb hby d1_15)
      obtain ⟨Tr3, Xr3, er3, str3⟩ := getS2 Xr2 hx hZ hown (host := "") (Or.inl (hw _ (List.mem_of_getElem? (i := 26) rfl))) Via.refl er2 S_C (g := (mkF m 19 #[.val (.ref o0), .val (.ref o1), .val (.ref o1)] [])) rfl (hb hby d1_19)
      obtain ⟨Tr4, Xr4, er4, str4⟩ := getF Xr3 hx hZ hown (host := "") (Or.inl (hw _ (List.mem_of_getElem? (i := 27) rfl))) Via.refl er3 C0 (g := (mkF m 26 #[.val (.ref o0), .val (.ref o1), .val (.ref o1)] [(.ref o0)])) rfl rfl (hb hby d1_26)
      obtain ⟨Tr5, Xr5, er5, str5⟩ := getF Xr4 hx hZ hown (host := "") (Or.inl (hw _ (List.mem_of_getElem? (i := 27) rfl))) Via.refl er4 C1 (g := (mkF m 30 #[.val (.ref o0), .val (.ref o1), .val (.ref o1)] [(.ref o1), (.int (0 : Int32))])) rfl rfl (hb hby d1_30)
      obtain ⟨Tr6, Xr6, er6, str6⟩ := getF Xr5 hx hZ hown (host := "") (Or.inl (hw _ (List.mem_of_getElem? (i := 28) rfl))) Via.refl er5 V0 (g := (mkF m 37 #[.val (.ref o0), .val (.ref o1), .val (.ref o1)] [(.ref o0)])) rfl rfl (hb hby d1_37)
      obtain ⟨Tr7, Xr7, er7, str7⟩ := getF Xr6 hx hZ hown (host := "") (Or.inl (hw _ (List.mem_of_getElem? (i := 28) rfl))) Via.refl er6 V1 (g := (mkF m 41 #[.val (.ref o0), .val (.ref o1), .val (.ref o1)] [(.ref o1), (.ref b0)])) rfl rfl (hb hby d1_41)
      obtain ⟨_, _, ⟨Tr8, Lr8, kr8, nr8⟩, -, Xr8, ⟨Lcr8, hQr8, lr8, yr8, zr8⟩, str8⟩ := Jvm.LawKit.callS Xr7 hx (y := (⟨"java/lang/StringLatin1", "equals", "([B[B)Z"⟩ : MethodName)) hown (mvT hZ (hw _ (List.mem_of_getElem? (i := 29) rfl))) (mvT hZ (hw _ (List.mem_of_getElem? (i := 30) rfl))) (mvT hZ (hw _ (List.mem_of_getElem? (i := 31) rfl))) (mvT hZ (hw _ (List.mem_of_getElem? (i := 32) rfl))) (by decide) (backOf (W := 0) (rm_lat l Z a0 hw [] b0 b1 k0 k1 bs0 bs1 h0 n0 Z0 hb0 hb1 K0 K1) hZ (hw _ (List.mem_of_getElem? (i := 32) rfl)) (hw _ (List.mem_of_getElem? (i := 31) rfl)) (by decide) (by decide)) (g := (mkF m 44 #[.val (.ref o0), .val (.ref o1), .val (.ref o1)] [(.ref b1), (.ref b0)])) rfl (by rw [hml]; rfl) (argsL := [(.ref b0), (.ref b1)]) (rest := []) (lenOf pd_eqs_0 rfl) rfl (by show 2 * 0 + _ ≤ _; exact Nat.le_of_eq rfl) (hb hby d1_44) (fun _ _ => ⟨rfl, er7, (by decide : 0 + 0 ≤ _), (by decide : 0 + 0 ≤ _)⟩)
      dsimp only [Pt.U, Pt.locs, Pt.cells, Pt.slots] at Xr8 lr8 yr8 zr8 str8 hQr8
      subst lr8 yr8 zr8
      obtain ⟨rfl, Nr8q, er8⟩ := hQr8
      have Nr8 := Fr.app N0 Nr8q
      obtain ⟨fs, hr, hrun, hended, hW, hsame⟩ := Xr8.leave (v := some (.int (1 : Int32))) (fun h => by rw [Bd.returns] at h; cases h)
      refine ⟨_, _, pre0 _ ?_, hrun, hended, _, _, rfl, ?_, ⟨_, rfl⟩, hW, hsame.mono (by decide) (by decide)⟩
      · show Steps p.tables e below (s₁.setTop (mkF m 0 #[.val (.ref o0), .val (.ref o1), .unset] [])) _
        refine XS.aloadN X0.here hx rfl (hb hby d1_0) rfl rfl ?_
        show Steps p.tables e below (s₁.setTop (mkF m 1 #[.val (.ref o0), .val (.ref o1), .unset] [(.ref o0)])) _
        refine XS.aloadN X0.here hx rfl (hb hby d1_1) rfl rfl ?_
        show Steps p.tables e below (s₁.setTop (mkF m 2 #[.val (.ref o0), .val (.ref o1), .unset] [(.ref o1), (.ref o0)])) _
        refine Jvm.RoadKit.acmp (g := (mkF m 2 #[.val (.ref o0), .val (.ref o1), .unset] [(.ref o1), (.ref o0)])) X0 hx rfl rfl rfl (pc0 := 2) (pc' := 7) (same := false) rfl (hb hby d1_2) rfl (decide_eq_false fun q => ho (Value.ref.inj q)) (by decide) (by decide) ?_
        show Steps p.tables e below (s₁.setTop (mkF m 7 #[.val (.ref o0), .val (.ref o1), .unset] [])) _
        refine XS.aloadN X0.here hx rfl (hb hby d1_7) rfl rfl ?_
        show Steps p.tables e below (s₁.setTop (mkF m 8 #[.val (.ref o0), .val (.ref o1), .unset] [(.ref o1)])) _
        refine str1 _ ?_
        show Steps p.tables e below (Tr1.setTop (mkF m 11 #[.val (.ref o0), .val (.ref o1), .unset] [(.int (1 : Int32))])) _
        refine XS.ifNo Xr1.here hx rfl (hb hby d1_11) rfl ((if0 _ _).trans (feq (by decide : ¬ ((1 : Int32) = (0 : Int32)))).1) ?_
        show Steps p.tables e below (Tr1.setTop (mkF m 14 #[.val (.ref o0), .val (.ref o1), .unset] [])) _
        refine XS.aloadN Xr1.here hx rfl (hb hby d1_14) rfl rfl ?_
        show Steps p.tables e below (Tr1.setTop (mkF m 15 #[.val (.ref o0), .val (.ref o1), .unset] [(.ref o1)])) _
        refine str2 _ ?_
        show Steps p.tables e below (Tr2.setTop (mkF m 18 #[.val (.ref o0), .val (.ref o1), .unset] [(.ref o1)])) _
        refine XS.astoreN Xr2.here hx rfl (hb hby d1_18) rfl rfl (l' := #[.val (.ref o0), .val (.ref o1), .val (.ref o1)]) rfl ?_
        show Steps p.tables e below (Tr2.setTop (mkF m 19 #[.val (.ref o0), .val (.ref o1), .val (.ref o1)] [])) _
        refine str3 _ ?_
        show Steps p.tables e below (Tr3.setTop (mkF m 22 #[.val (.ref o0), .val (.ref o1), .val (.ref o1)] [(.int iC)])) _
        refine XS.ifNo Xr3.here hx rfl (hb hby d1_22) rfl ((if0 _ _).trans (feq hC).1) ?_
        show Steps p.tables e below (Tr3.setTop (mkF m 25 #[.val (.ref o0), .val (.ref o1), .val (.ref o1)] [])) _
        refine XS.aloadN Xr3.here hx rfl (hb hby d1_25) rfl rfl ?_
        show Steps p.tables e below (Tr3.setTop (mkF m 26 #[.val (.ref o0), .val (.ref o1), .val (.ref o1)] [(.ref o0)])) _
        refine str4 _ ?_
        show Steps p.tables e below (Tr4.setTop (mkF m 29 #[.val (.ref o0), .val (.ref o1), .val (.ref o1)] [(.int (0 : Int32))])) _
        refine XS.aloadN Xr4.here hx rfl (hb hby d1_29) rfl rfl ?_
        show Steps p.tables e below (Tr4.setTop (mkF m 30 #[.val (.ref o0), .val (.ref o1), .val (.ref o1)] [(.ref o1), (.int (0 : Int32))])) _
        refine str5 _ ?_
        show Steps p.tables e below (Tr5.setTop (mkF m 33 #[.val (.ref o0), .val (.ref o1), .val (.ref o1)] [(.int (0 : Int32)), (.int (0 : Int32))])) _
        refine XS.icmpNo Xr5.here hx rfl (hb hby d1_33) rfl (teq (rfl : (0 : Int32) = (0 : Int32))).2 ?_
        show Steps p.tables e below (Tr5.setTop (mkF m 36 #[.val (.ref o0), .val (.ref o1), .val (.ref o1)] [])) _
        refine XS.aloadN Xr5.here hx rfl (hb hby d1_36) rfl rfl ?_
        show Steps p.tables e below (Tr5.setTop (mkF m 37 #[.val (.ref o0), .val (.ref o1), .val (.ref o1)] [(.ref o0)])) _
        refine str6 _ ?_
        show Steps p.tables e below (Tr6.setTop (mkF m 40 #[.val (.ref o0), .val (.ref o1), .val (.ref o1)] [(.ref b0)])) _
        refine XS.aloadN Xr6.here hx rfl (hb hby d1_40) rfl rfl ?_
        show Steps p.tables e below (Tr6.setTop (mkF m 41 #[.val (.ref o0), .val (.ref o1), .val (.ref o1)] [(.ref o1), (.ref b0)])) _
        refine str7 _ ?_
        show Steps p.tables e below (Tr7.setTop (mkF m 44 #[.val (.ref o0), .val (.ref o1), .val (.ref o1)] [(.ref b1), (.ref b0)])) _
        refine str8 _ ?_
        show Steps p.tables e below (Tr8.setTop (mkF m 47 #[.val (.ref o0), .val (.ref o1), .val (.ref o1)] [(.int (own_eqI bs0 bs1))])) _
        refine XS.ifNo Xr8.here hx rfl (hb hby d1_47) rfl ((if0 _ _).trans (feq (by unfold own_eqI; rw [if_pos hq]; decide)).1) ?_
        show Steps p.tables e below (Tr8.setTop (mkF m 50 #[.val (.ref o0), .val (.ref o1), .val (.ref o1)] [])) _
        refine XS.iconst Xr8.here hx rfl (hb hby d1_50) ?_
        show Steps p.tables e below (Tr8.setTop (mkF m 51 #[.val (.ref o0), .val (.ref o1), .val (.ref o1)] [(.int (1 : Int32))])) _
        refine XS.goto Xr8.here hx rfl (pc0 := 51) (pc' := 55) rfl (hb hby d1_51) (by decide) (by decide) ?_
        show Steps p.tables e below (Tr8.setTop (mkF m 55 #[.val (.ref o0), .val (.ref o1), .val (.ref o1)] [(.int (1 : Int32))])) _
        exact retN Xr8 hx (t := .boolean) Bd.returns (by simp) (hb hby d1_55) hr
      · show Q_eqs Z o0 o1 b0 b1 k0 k1 bs0 bs1 iC h0 n0 _ Tr8.heap _
        rw [er8]
        exact ⟨by rw [hf], Nr8, rfl⟩
    · have hf : own_eqI bs0 bs1 = (0 : Int32) := by unfold own_eqI; rw [if_neg hq]
      obtain ⟨Tr1, Xr1, er1, str1⟩ := instY X0 hx hZ hown (hw _ (List.mem_of_getElem? (i := 24) rfl)) e0 (Ins.self E1) (g := (mkF m 8 #[.val (.ref o0), .val (.ref o1), .unset] [(.ref o1)])) rfl rfl (hb hby d1_8)
      obtain ⟨Tr2, Xr2, er2, str2⟩ := castY Xr1 hx hZ hown (hw _ (List.mem_of_getElem? (i := 24) rfl)) er1 (Ins.self E1) (g := (mkF m 15 #[.val (.ref o0), .val (.ref o1), .unset] [(.ref o1)])) rfl rfl (hb hby d1_15)
      obtain ⟨Tr3, Xr3, er3, str3⟩ := getS2 Xr2 hx hZ hown (host := "") (Or.inl (hw _ (List.mem_of_getElem? (i := 26) rfl))) Via.refl er2 S_C (g := (mkF m 19 #[.val (.ref o0), .val (.ref o1), .val (.ref o1)] [])) rfl (hb hby d1_19)
      obtain ⟨Tr4, Xr4, er4, str4⟩ := getF Xr3 hx hZ hown (host := "") (Or.inl (hw _ (List.mem_of_getElem? (i := 27) rfl))) Via.refl er3 C0 (g := (mkF m 26 #[.val (.ref o0), .val (.ref o1), .val (.ref o1)] [(.ref o0)])) rfl rfl (hb hby d1_26)
      obtain ⟨Tr5, Xr5, er5, str5⟩ := getF Xr4 hx hZ hown (host := "") (Or.inl (hw _ (List.mem_of_getElem? (i := 27) rfl))) Via.refl er4 C1 (g := (mkF m 30 #[.val (.ref o0), .val (.ref o1), .val (.ref o1)] [(.ref o1), (.int (0 : Int32))])) rfl rfl (hb hby d1_30)
      obtain ⟨Tr6, Xr6, er6, str6⟩ := getF Xr5 hx hZ hown (host := "") (Or.inl (hw _ (List.mem_of_getElem? (i := 28) rfl))) Via.refl er5 V0 (g := (mkF m 37 #[.val (.ref o0), .val (.ref o1), .val (.ref o1)] [(.ref o0)])) rfl rfl (hb hby d1_37)
      obtain ⟨Tr7, Xr7, er7, str7⟩ := getF Xr6 hx hZ hown (host := "") (Or.inl (hw _ (List.mem_of_getElem? (i := 28) rfl))) Via.refl er6 V1 (g := (mkF m 41 #[.val (.ref o0), .val (.ref o1), .val (.ref o1)] [(.ref o1), (.ref b0)])) rfl rfl (hb hby d1_41)
      obtain ⟨_, _, ⟨Tr8, Lr8, kr8, nr8⟩, -, Xr8, ⟨Lcr8, hQr8, lr8, yr8, zr8⟩, str8⟩ := Jvm.LawKit.callS Xr7 hx (y := (⟨"java/lang/StringLatin1", "equals", "([B[B)Z"⟩ : MethodName)) hown (mvT hZ (hw _ (List.mem_of_getElem? (i := 29) rfl))) (mvT hZ (hw _ (List.mem_of_getElem? (i := 30) rfl))) (mvT hZ (hw _ (List.mem_of_getElem? (i := 31) rfl))) (mvT hZ (hw _ (List.mem_of_getElem? (i := 32) rfl))) (by decide) (backOf (W := 0) (rm_lat l Z a0 hw [] b0 b1 k0 k1 bs0 bs1 h0 n0 Z0 hb0 hb1 K0 K1) hZ (hw _ (List.mem_of_getElem? (i := 32) rfl)) (hw _ (List.mem_of_getElem? (i := 31) rfl)) (by decide) (by decide)) (g := (mkF m 44 #[.val (.ref o0), .val (.ref o1), .val (.ref o1)] [(.ref b1), (.ref b0)])) rfl (by rw [hml]; rfl) (argsL := [(.ref b0), (.ref b1)]) (rest := []) (lenOf pd_eqs_0 rfl) rfl (by show 2 * 0 + _ ≤ _; exact Nat.le_of_eq rfl) (hb hby d1_44) (fun _ _ => ⟨rfl, er7, (by decide : 0 + 0 ≤ _), (by decide : 0 + 0 ≤ _)⟩)
      dsimp only [Pt.U, Pt.locs, Pt.cells, Pt.slots] at Xr8 lr8 yr8 zr8 str8 hQr8
      subst lr8 yr8 zr8
      obtain ⟨rfl, Nr8q, er8⟩ := hQr8
      have Nr8 := Fr.app N0 Nr8q
      obtain ⟨fs, hr, hrun, hended, hW, hsame⟩ := Xr8.leave (v := some (.int (0 : Int32))) (fun h => by rw [Bd.returns] at h; cases h)
      refine ⟨_, _, pre0 _ ?_, hrun, hended, _, _, rfl, ?_, ⟨_, rfl⟩, hW, hsame.mono (by decide) (by decide)⟩
      · show Steps p.tables e below (s₁.setTop (mkF m 0 #[.val (.ref o0), .val (.ref o1), .unset] [])) _
        refine XS.aloadN X0.here hx rfl (hb hby d1_0) rfl rfl ?_
        show Steps p.tables e below (s₁.setTop (mkF m 1 #[.val (.ref o0), .val (.ref o1), .unset] [(.ref o0)])) _
        refine XS.aloadN X0.here hx rfl (hb hby d1_1) rfl rfl ?_
        show Steps p.tables e below (s₁.setTop (mkF m 2 #[.val (.ref o0), .val (.ref o1), .unset] [(.ref o1), (.ref o0)])) _
        refine Jvm.RoadKit.acmp (g := (mkF m 2 #[.val (.ref o0), .val (.ref o1), .unset] [(.ref o1), (.ref o0)])) X0 hx rfl rfl rfl (pc0 := 2) (pc' := 7) (same := false) rfl (hb hby d1_2) rfl (decide_eq_false fun q => ho (Value.ref.inj q)) (by decide) (by decide) ?_
        show Steps p.tables e below (s₁.setTop (mkF m 7 #[.val (.ref o0), .val (.ref o1), .unset] [])) _
        refine XS.aloadN X0.here hx rfl (hb hby d1_7) rfl rfl ?_
        show Steps p.tables e below (s₁.setTop (mkF m 8 #[.val (.ref o0), .val (.ref o1), .unset] [(.ref o1)])) _
        refine str1 _ ?_
        show Steps p.tables e below (Tr1.setTop (mkF m 11 #[.val (.ref o0), .val (.ref o1), .unset] [(.int (1 : Int32))])) _
        refine XS.ifNo Xr1.here hx rfl (hb hby d1_11) rfl ((if0 _ _).trans (feq (by decide : ¬ ((1 : Int32) = (0 : Int32)))).1) ?_
        show Steps p.tables e below (Tr1.setTop (mkF m 14 #[.val (.ref o0), .val (.ref o1), .unset] [])) _
        refine XS.aloadN Xr1.here hx rfl (hb hby d1_14) rfl rfl ?_
        show Steps p.tables e below (Tr1.setTop (mkF m 15 #[.val (.ref o0), .val (.ref o1), .unset] [(.ref o1)])) _
        refine str2 _ ?_
        show Steps p.tables e below (Tr2.setTop (mkF m 18 #[.val (.ref o0), .val (.ref o1), .unset] [(.ref o1)])) _
        refine XS.astoreN Xr2.here hx rfl (hb hby d1_18) rfl rfl (l' := #[.val (.ref o0), .val (.ref o1), .val (.ref o1)]) rfl ?_
        show Steps p.tables e below (Tr2.setTop (mkF m 19 #[.val (.ref o0), .val (.ref o1), .val (.ref o1)] [])) _
        refine str3 _ ?_
        show Steps p.tables e below (Tr3.setTop (mkF m 22 #[.val (.ref o0), .val (.ref o1), .val (.ref o1)] [(.int iC)])) _
        refine XS.ifNo Xr3.here hx rfl (hb hby d1_22) rfl ((if0 _ _).trans (feq hC).1) ?_
        show Steps p.tables e below (Tr3.setTop (mkF m 25 #[.val (.ref o0), .val (.ref o1), .val (.ref o1)] [])) _
        refine XS.aloadN Xr3.here hx rfl (hb hby d1_25) rfl rfl ?_
        show Steps p.tables e below (Tr3.setTop (mkF m 26 #[.val (.ref o0), .val (.ref o1), .val (.ref o1)] [(.ref o0)])) _
        refine str4 _ ?_
        show Steps p.tables e below (Tr4.setTop (mkF m 29 #[.val (.ref o0), .val (.ref o1), .val (.ref o1)] [(.int (0 : Int32))])) _
        refine XS.aloadN Xr4.here hx rfl (hb hby d1_29) rfl rfl ?_
        show Steps p.tables e below (Tr4.setTop (mkF m 30 #[.val (.ref o0), .val (.ref o1), .val (.ref o1)] [(.ref o1), (.int (0 : Int32))])) _
        refine str5 _ ?_
        show Steps p.tables e below (Tr5.setTop (mkF m 33 #[.val (.ref o0), .val (.ref o1), .val (.ref o1)] [(.int (0 : Int32)), (.int (0 : Int32))])) _
        refine XS.icmpNo Xr5.here hx rfl (hb hby d1_33) rfl (teq (rfl : (0 : Int32) = (0 : Int32))).2 ?_
        show Steps p.tables e below (Tr5.setTop (mkF m 36 #[.val (.ref o0), .val (.ref o1), .val (.ref o1)] [])) _
        refine XS.aloadN Xr5.here hx rfl (hb hby d1_36) rfl rfl ?_
        show Steps p.tables e below (Tr5.setTop (mkF m 37 #[.val (.ref o0), .val (.ref o1), .val (.ref o1)] [(.ref o0)])) _
        refine str6 _ ?_
        show Steps p.tables e below (Tr6.setTop (mkF m 40 #[.val (.ref o0), .val (.ref o1), .val (.ref o1)] [(.ref b0)])) _
        refine XS.aloadN Xr6.here hx rfl (hb hby d1_40) rfl rfl ?_
        show Steps p.tables e below (Tr6.setTop (mkF m 41 #[.val (.ref o0), .val (.ref o1), .val (.ref o1)] [(.ref o1), (.ref b0)])) _
        refine str7 _ ?_
        show Steps p.tables e below (Tr7.setTop (mkF m 44 #[.val (.ref o0), .val (.ref o1), .val (.ref o1)] [(.ref b1), (.ref b0)])) _
        refine str8 _ ?_
        show Steps p.tables e below (Tr8.setTop (mkF m 47 #[.val (.ref o0), .val (.ref o1), .val (.ref o1)] [(.int (own_eqI bs0 bs1))])) _
        refine XS.ifYes Xr8.here hx rfl (pc0 := 47) (pc' := 54) rfl (hb hby d1_47) rfl ((if0 _ _).trans (teq (by unfold own_eqI; rw [if_neg hq])).1) (by decide) (by decide) ?_
        show Steps p.tables e below (Tr8.setTop (mkF m 54 #[.val (.ref o0), .val (.ref o1), .val (.ref o1)] [])) _
        refine XS.iconst Xr8.here hx rfl (hb hby d1_54) ?_
        show Steps p.tables e below (Tr8.setTop (mkF m 55 #[.val (.ref o0), .val (.ref o1), .val (.ref o1)] [(.int (0 : Int32))])) _
        exact retN Xr8 hx (t := .boolean) Bd.returns (by simp) (hb hby d1_55) hr
      · show Q_eqs Z o0 o1 b0 b1 k0 k1 bs0 bs1 iC h0 n0 _ Tr8.heap _
        rw [er8]
        exact ⟨by rw [hf], Nr8, rfl⟩
theorem ef_eqn (m : MethodId) (o0 : Addr) : entryFrame m #[(.ref o0), .null] 3 = mkF m 0 #[.val (.ref o0), .val .null, .unset] [] := by first | (simp [entryFrame, mkF, argsToLocals, Value.category]; done) | rfl
def Q_eqn (Z : State) (o0 : Addr) (h0 : Heap) (n0 : Nat) (v : Option Value) (h : Heap) (L : List Loc) : Prop := v = some (.int (0 : Int32)) ∧ Fr n0 L ∧ h = h0
set_option maxRecDepth 65536 in
set_option maxHeartbeats 40000000 in
theorem rm_eqn (l : Launch) (Z : State) (a0 : Array Value) (hw : ∀ d ∈ tables_1, d.before a0 Z = true) (ws : List Jvm.Cond) (o0 : Addr) (h0 : Heap) (n0 : Nat) (Z0 : n0 ≤ h0.size) :
    MetFree l (⟨"java/lang/String", "equals", "(Ljava/lang/Object;)Z"⟩ : MethodName) (head1 (Jvm.Cond.code (⟨"java/lang/String", "equals", "(Ljava/lang/Object;)Z"⟩ : MethodName) jdk_42_method_66_code 3 (some .boolean) :: ws) ({ frames := 1, cells := 0, slots := 0, locals := 14 } : Room)) (fun a U => a = #[(.ref o0), .null] ∧ Z.Warmed39 U.vm ∧ U.heap = h0) (fun _ _ _ _ _ => True) (fun _ U o U' => ∃ v L, o = .returned v ∧ Q_eqn Z o0 h0 n0 v U'.heap L ∧ FrameEnd U o U' L ({ frames := 1, cells := 0, slots := 0, locals := 14 } : Room).cells ({ frames := 1, cells := 0, slots := 0, locals := 14 } : Room).slots) := by
  refine MetFree.of_bodySF (plainFor_of_name pn_eqs) hisR ?_
  intro p e s m args below meth c s₁ Bd hml0 hP hK
  obtain ⟨rfl, hZ, hh⟩ := hP
  have hx := Bd.exec
  have hby := Bd.bytes
  have hml : c.maxLocals = 3 := hml0
  have hown : s.vm.findClass "java/lang/String" = some m.cls := findClass_of_methodNamed Bd.named
  have hnm := (name_of_methodNamed Bd.named Bd.method).1
  have X0 : Stand p l e ({ frames := 1, cells := 0, slots := 0, locals := 14 } : Room) s m #[(.ref o0), .null] below meth c s₁ [] 0 0 := Stand.of_body Bd
  have e0 : s₁.heap = h0 := by rw [← hh, Bd.state]; rfl
  have N0 := Fr.nil n0
  have pre0 : ∀ tg, Steps p.tables e below (s₁.setTop (mkF m 0 #[.val (.ref o0), .val .null, .unset] [])) tg → Steps p.tables e below (s₁.setTop (entryFrame m #[(.ref o0), .null] 3)) tg := fun tg kg => castTop (ef_eqn m o0) kg
  obtain ⟨fs, hr, hrun, hended, hW, hsame⟩ := X0.leave (v := some (.int (0 : Int32))) (fun h => by rw [Bd.returns] at h; cases h)
  refine ⟨_, _, pre0 _ ?_, hrun, hended, _, _, rfl, ?_, ⟨_, rfl⟩, hW, hsame.mono (by decide) (by decide)⟩
  · show Steps p.tables e below (s₁.setTop (mkF m 0 #[.val (.ref o0), .val .null, .unset] [])) _
    refine XS.aloadN X0.here hx rfl (hb hby d1_0) rfl rfl ?_
    show Steps p.tables e below (s₁.setTop (mkF m 1 #[.val (.ref o0), .val .null, .unset] [(.ref o0)])) _
    refine XS.aloadN X0.here hx rfl (hb hby d1_1) rfl rfl ?_
    show Steps p.tables e below (s₁.setTop (mkF m 2 #[.val (.ref o0), .val .null, .unset] [.null, (.ref o0)])) _
    refine Jvm.RoadKit.acmp (g := (mkF m 2 #[.val (.ref o0), .val .null, .unset] [.null, (.ref o0)])) X0 hx rfl rfl rfl (pc0 := 2) (pc' := 7) (same := false) rfl (hb hby d1_2) rfl (decide_eq_false nofun) (by decide) (by decide) ?_
    show Steps p.tables e below (s₁.setTop (mkF m 7 #[.val (.ref o0), .val .null, .unset] [])) _
    refine XS.aloadN X0.here hx rfl (hb hby d1_7) rfl rfl ?_
    show Steps p.tables e below (s₁.setTop (mkF m 8 #[.val (.ref o0), .val .null, .unset] [.null])) _
    refine X0.instanceofNull hx (g := (mkF m 8 #[.val (.ref o0), .val .null, .unset] [.null])) rfl rfl (hb hby d1_8) _ ?_
    show Steps p.tables e below (s₁.setTop (mkF m 11 #[.val (.ref o0), .val .null, .unset] [(.int (0 : Int32))])) _
    refine XS.ifYes X0.here hx rfl (pc0 := 11) (pc' := 54) rfl (hb hby d1_11) rfl ((if0 _ _).trans (teq (rfl : (0 : Int32) = (0 : Int32))).1) (by decide) (by decide) ?_
    show Steps p.tables e below (s₁.setTop (mkF m 54 #[.val (.ref o0), .val .null, .unset] [])) _
    refine XS.iconst X0.here hx rfl (hb hby d1_54) ?_
    show Steps p.tables e below (s₁.setTop (mkF m 55 #[.val (.ref o0), .val .null, .unset] [(.int (0 : Int32))])) _
    exact retN X0 hx (t := .boolean) Bd.returns (by simp) (hb hby d1_55) hr
  · show Q_eqn Z o0 h0 n0 _ s₁.heap _
    rw [e0]
    exact ⟨rfl, N0, rfl⟩
theorem own_oldE {Z : State} {h0 h' : Heap} {n0 : Nat} (h : Z.heap = h0) (O : Old Z n0 h') : Ext h0 h' := h ▸ O.2
def own_L : List Int32 := [(108 : Int32), (117 : Int32), (109 : Int32), (112 : Int32), (45 : Int32), (115 : Int32), (117 : Int32), (109 : Int32)]
def own_I : List Int32 := [(105 : Int32), (110 : Int32), (115 : Int32), (116 : Int32), (97 : Int32), (108 : Int32), (108 : Int32), (109 : Int32), (101 : Int32), (110 : Int32), (116 : Int32), (115 : Int32)]
theorem own_eq1 {a b : List Int32} (h : a = b) : own_eqI a b = 1 := by unfold own_eqI; rw [if_pos h]
theorem own_eq0 {a b : List Int32} (h : ¬ a = b) : own_eqI a b = 0 := by unfold own_eqI; rw [if_neg h]
theorem own_L4 : own_L.length ≤ 4000 := by decide
theorem own_I4 : own_I.length ≤ 4000 := by decide
def own_app (bs : List Int32) (wL wI : Addr) : Value := if own_L = bs then .ref wL else if own_I = bs then .ref wI else .null
theorem own_app1 {bs : List Int32} (wL wI : Addr) (h : own_L = bs) : own_app bs wL wI = .ref wL := by unfold own_app; rw [if_pos h]
theorem own_app2 {bs : List Int32} (wL wI : Addr) (h : ¬ own_L = bs) (h2 : own_I = bs) : own_app bs wL wI = .ref wI := by unfold own_app; rw [if_neg h, if_pos h2]
theorem own_app3 {bs : List Int32} (wL wI : Addr) (h : ¬ own_L = bs) (h2 : ¬ own_I = bs) : own_app bs wL wI = .null := by unfold own_app; rw [if_neg h, if_neg h2]
/-- a form's file name -/
def own_W (Z : State) (h : Heap) (w : Addr) (bs : List Int32) : Prop := ∃ (u b : Addr) (k : ClassId), Fld Z h w "com/example/vestry/vestry/census/PaymentForm" "fileName" "Ljava/lang/String;" (.ref u) ∧ Exa Z h u "java/lang/String" ∧ Fld Z h u "java/lang/String" "coder" "B" (.int (0 : Int32)) ∧ Fld Z h u "java/lang/String" "value" "[B" (.ref b) ∧ Arv Z h b k .byte (Int32.ofNat bs.length) (bs.map Value.int) (.int (0 : Int32))
theorem own_W.ext {Z : State} {h h' : Heap} {w : Addr} {bs : List Int32} (F : own_W Z h w bs) (E : Ext h h') : own_W Z h' w bs := by
  obtain ⟨u, b, k, f1, f2, f3, f4, f5⟩ := F
  exact ⟨u, b, k, f1.ext E, f2.ext E, f3.ext E, f4.ext E, f5.ext E⟩

theorem d2_0 : decode prog_41_method_4_code 0 = .ok (.aconst_null, 1) := by decide +kernel
theorem d2_1 : decode prog_41_method_4_code 1 = .ok (.astore_n 1, 1) := by decide +kernel
theorem d2_2 : decode prog_41_method_4_code 2 = .ok (.getstatic 3, 3) := by decide +kernel
theorem d2_5 : decode prog_41_method_4_code 5 = .ok (.getfield 32, 3) := by decide +kernel
theorem d2_8 : decode prog_41_method_4_code 8 = .ok (.aload_n 0, 1) := by decide +kernel
theorem d2_9 : decode prog_41_method_4_code 9 = .ok (.invokevirtual 36, 3) := by decide +kernel
theorem d2_12 : decode prog_41_method_4_code 12 = .ok (.ifCond .eq 10, 3) := by decide +kernel
theorem d2_15 : decode prog_41_method_4_code 15 = .ok (.getstatic 3, 3) := by decide +kernel
theorem d2_18 : decode prog_41_method_4_code 18 = .ok (.astore_n 1, 1) := by decide +kernel
theorem d2_19 : decode prog_41_method_4_code 19 = .ok (.goto 20, 3) := by decide +kernel
theorem d2_22 : decode prog_41_method_4_code 22 = .ok (.getstatic 7, 3) := by decide +kernel
theorem d2_25 : decode prog_41_method_4_code 25 = .ok (.getfield 32, 3) := by decide +kernel
theorem d2_28 : decode prog_41_method_4_code 28 = .ok (.aload_n 0, 1) := by decide +kernel
theorem d2_29 : decode prog_41_method_4_code 29 = .ok (.invokevirtual 36, 3) := by decide +kernel
theorem d2_32 : decode prog_41_method_4_code 32 = .ok (.ifCond .eq 7, 3) := by decide +kernel
theorem d2_35 : decode prog_41_method_4_code 35 = .ok (.getstatic 7, 3) := by decide +kernel
theorem d2_38 : decode prog_41_method_4_code 38 = .ok (.astore_n 1, 1) := by decide +kernel
theorem d2_39 : decode prog_41_method_4_code 39 = .ok (.aload_n 1, 1) := by decide +kernel
theorem d2_40 : decode prog_41_method_4_code 40 = .ok (.areturn, 1) := by decide +kernel
theorem pn_app : plainName "com/example/vestry/vestry/census/PaymentForm" = true := by first | (simp [plainName, overriddenIn]; done) | decide +kernel
theorem pd_app_0 : parseMethodDescriptor "(Ljava/lang/Object;)Z" = some ⟨[(.object "java/lang/Object")], some .boolean⟩ := by decide +kernel
theorem ef_app (m : MethodId) (o0 : Addr) : entryFrame m #[(.ref o0)] 2 = mkF m 0 #[.val (.ref o0), .unset] [] := by first | (simp [entryFrame, mkF, argsToLocals, Value.category]; done) | rfl
def Q_app (Z : State) (o0 bN : Addr) (kN : ClassId) (bs : List Int32) (wL wI : Addr) (iC : Int32) (h0 : Heap) (n0 : Nat) (v : Option Value) (h : Heap) (L : List Loc) : Prop := v = some (own_app bs wL wI) ∧ Fr n0 L ∧ h = h0
set_option maxRecDepth 65536 in
set_option maxHeartbeats 40000000 in
theorem rm_app (l : Launch) (Z : State) (a0 : Array Value) (hw : ∀ d ∈ tables_1, d.before a0 Z = true) (ws : List Jvm.Cond) (o0 bN : Addr) (kN : ClassId) (bs : List Int32) (wL wI : Addr) (iC : Int32) (h0 : Heap) (n0 : Nat) (Z0 : n0 ≤ h0.size) (S_L : Sta Z h0 "com/example/vestry/vestry/census/PaymentForm" "LUMP_SUM" "Lcom/example/vestry/vestry/census/PaymentForm;" (.ref wL)) (S_I : Sta Z h0 "com/example/vestry/vestry/census/PaymentForm" "INSTALLMENTS" "Lcom/example/vestry/vestry/census/PaymentForm;" (.ref wI)) (W_L : own_W Z h0 wL own_L) (W_I : own_W Z h0 wI own_I) (S_C : Sta Z h0 "java/lang/String" "COMPACT_STRINGS" "Z" (.int iC)) (hC : ¬ (iC = (0 : Int32))) (hlen : bs.length ≤ 4000) (E_N : Exa Z h0 o0 "java/lang/String") (C_N : Fld Z h0 o0 "java/lang/String" "coder" "B" (.int (0 : Int32))) (V_N : Fld Z h0 o0 "java/lang/String" "value" "[B" (.ref bN)) (K_N : Arv Z h0 bN kN .byte (Int32.ofNat bs.length) (bs.map Value.int) (.int (0 : Int32))) :
    MetFree l (⟨"com/example/vestry/vestry/census/PaymentForm", "appliedFor", "(Ljava/lang/String;)Lcom/example/vestry/vestry/census/PaymentForm;"⟩ : MethodName) (head1 (Jvm.Cond.code (⟨"com/example/vestry/vestry/census/PaymentForm", "appliedFor", "(Ljava/lang/String;)Lcom/example/vestry/vestry/census/PaymentForm;"⟩ : MethodName) prog_41_method_4_code 2 (some (.object "com/example/vestry/vestry/census/PaymentForm")) :: ws) ({ frames := 2, cells := 0, slots := 0, locals := 28 } : Room)) (fun a U => a = #[(.ref o0)] ∧ Z.Warmed39 U.vm ∧ U.heap = h0) (fun _ _ _ _ _ => True) (fun _ U o U' => ∃ v L, o = .returned v ∧ Q_app Z o0 bN kN bs wL wI iC h0 n0 v U'.heap L ∧ FrameEnd U o U' L ({ frames := 2, cells := 0, slots := 0, locals := 28 } : Room).cells ({ frames := 2, cells := 0, slots := 0, locals := 28 } : Room).slots) := by
  refine MetFree.of_bodySF (plainFor_of_name pn_app) hisR ?_
  intro p e s m args below meth c s₁ Bd hml0 hP hK
  obtain ⟨rfl, hZ, hh⟩ := hP
  have hx := Bd.exec
  have hby := Bd.bytes
  have hml : c.maxLocals = 2 := hml0
  have hown : s.vm.findClass "com/example/vestry/vestry/census/PaymentForm" = some m.cls := findClass_of_methodNamed Bd.named
  have hnm := (name_of_methodNamed Bd.named Bd.method).1
  have X0 : Stand p l e ({ frames := 2, cells := 0, slots := 0, locals := 28 } : Room) s m #[(.ref o0)] below meth c s₁ [] 0 0 := Stand.of_body Bd
  have e0 : s₁.heap = h0 := by rw [← hh, Bd.state]; rfl
  have N0 := Fr.nil n0
  have pre0 : ∀ tg, Steps p.tables e below (s₁.setTop (mkF m 0 #[.val (.ref o0), .unset] [])) tg → Steps p.tables e below (s₁.setTop (entryFrame m #[(.ref o0)] 2)) tg := fun tg kg => castTop (ef_app m o0) kg
  obtain ⟨uL, bL, kL, F_L, E_L, C_L, V_L, K_L⟩ := W_L
  obtain ⟨uI, bI, kI, F_I, E_I, C_I, V_I, K_I⟩ := W_I
  by_cases hL : own_L = bs
  · have hf := own_app1 wL wI hL
    obtain ⟨Tr1, Xr1, er1, str1⟩ := getS2 X0 hx hZ hown (host := "") (Or.inl (hw _ (List.mem_of_getElem? (i := 20) rfl))) Via.refl e0 S_L (g := (mkF m 2 #[.val (.ref o0), .val .null] [])) rfl (hb hby d2_2)
    obtain ⟨Tr2, Xr2, er2, str2⟩ := getF Xr1 hx hZ hown (host := "") (Or.inl (hw _ (List.mem_of_getElem? (i := 21) rfl))) Via.refl er1 F_L (g := (mkF m 5 #[.val (.ref o0), .val .null] [(.ref wL)])) rfl rfl (hb hby d2_5)
    obtain ⟨cqr3, kqr3, qar3, qbr3, qcr3⟩ := isOf hZ er2 E_L
    obtain ⟨_, _, ⟨Tr3, Lr3, kr3, nr3⟩, -, Xr3, ⟨Lcr3, hQr3, lr3, yr3, zr3⟩, str3⟩ := Xr2.virtualBack hx (y := (⟨"java/lang/String", "equals", "(Ljava/lang/Object;)Z"⟩ : MethodName)) (z := (⟨"java/lang/String", "equals", "(Ljava/lang/Object;)Z"⟩ : MethodName)) hown (mvT hZ (hw _ (List.mem_of_getElem? (i := 23) rfl))) (mvT hZ (hw _ (List.mem_of_getElem? (i := 10) rfl))) (notFace_of_selects (args := #[]) (mvT hZ (hw _ (List.mem_of_getElem? (i := 12) rfl)))) (mvT hZ (hw _ (List.mem_of_getElem? (i := 12) rfl))) (mvT hZ (hw _ (List.mem_of_getElem? (i := 11) rfl))) (by decide) (backOf (W := 0) (rm_eqs l Z a0 hw [] uL o0 bL bN kL kN own_L bs iC h0 n0 Z0 own_L4 hlen E_L C_L V_L K_L E_N C_N V_N K_N S_C hC) hZ (hw _ (List.mem_of_getElem? (i := 13) rfl)) (hw _ (List.mem_of_getElem? (i := 2) rfl)) (by decide) (by decide)) qar3 qcr3 (g := (mkF m 9 #[.val (.ref o0), .val .null] [(.ref o0), (.ref uL)])) rfl (by rw [hml]; rfl) (Steps.refl _) (argsL := [(.ref o0)]) (rest := []) (lenOf pd_app_0 rfl) rfl (by show 2 * 0 + _ ≤ _; exact Nat.le_of_eq rfl) (hb hby d2_9) (fun _ _ => ⟨rfl, er2, (by decide : 0 + 0 ≤ _), (by decide : 0 + 0 ≤ _)⟩)
    dsimp only [Pt.U, Pt.locs, Pt.cells, Pt.slots] at Xr3 lr3 yr3 zr3 str3 hQr3
    subst lr3 yr3 zr3
    obtain ⟨rfl, Nr3q, er3⟩ := hQr3
    have Nr3 := Fr.app N0 Nr3q
    obtain ⟨Tr4, Xr4, er4, str4⟩ := getS2 Xr3 hx hZ hown (host := "") (Or.inl (hw _ (List.mem_of_getElem? (i := 20) rfl))) Via.refl er3 S_L (g := (mkF m 15 #[.val (.ref o0), .val .null] [])) rfl (hb hby d2_15)
    obtain ⟨fs, hr, hrun, hended, hW, hsame⟩ := Xr4.leave (v := some (.ref wL)) (fun h => by rw [Bd.returns] at h; cases h)
    refine ⟨_, _, pre0 _ ?_, hrun, hended, _, _, rfl, ?_, ⟨_, rfl⟩, hW, hsame.mono (by decide) (by decide)⟩
    · show Steps p.tables e below (s₁.setTop (mkF m 0 #[.val (.ref o0), .unset] [])) _
      refine XS.aconstNull X0.here hx rfl (hb hby d2_0) ?_
      show Steps p.tables e below (s₁.setTop (mkF m 1 #[.val (.ref o0), .unset] [.null])) _
      refine XS.astoreN X0.here hx rfl (hb hby d2_1) rfl rfl (l' := #[.val (.ref o0), .val .null]) rfl ?_
      show Steps p.tables e below (s₁.setTop (mkF m 2 #[.val (.ref o0), .val .null] [])) _
      refine str1 _ ?_
      show Steps p.tables e below (Tr1.setTop (mkF m 5 #[.val (.ref o0), .val .null] [(.ref wL)])) _
      refine str2 _ ?_
      show Steps p.tables e below (Tr2.setTop (mkF m 8 #[.val (.ref o0), .val .null] [(.ref uL)])) _
      refine XS.aloadN Xr2.here hx rfl (hb hby d2_8) rfl rfl ?_
      show Steps p.tables e below (Tr2.setTop (mkF m 9 #[.val (.ref o0), .val .null] [(.ref o0), (.ref uL)])) _
      refine str3.trans ?_
      show Steps p.tables e below (Tr3.setTop (mkF m 12 #[.val (.ref o0), .val .null] [(.int (own_eqI own_L bs))])) _
      refine XS.ifNo Xr3.here hx rfl (hb hby d2_12) rfl ((if0 _ _).trans (feq (by rw [own_eq1 hL]; decide)).1) ?_
      show Steps p.tables e below (Tr3.setTop (mkF m 15 #[.val (.ref o0), .val .null] [])) _
      refine str4 _ ?_
      show Steps p.tables e below (Tr4.setTop (mkF m 18 #[.val (.ref o0), .val .null] [(.ref wL)])) _
      refine XS.astoreN Xr4.here hx rfl (hb hby d2_18) rfl rfl (l' := #[.val (.ref o0), .val (.ref wL)]) rfl ?_
      show Steps p.tables e below (Tr4.setTop (mkF m 19 #[.val (.ref o0), .val (.ref wL)] [])) _
      refine XS.goto Xr4.here hx rfl (pc0 := 19) (pc' := 39) rfl (hb hby d2_19) (by decide) (by decide) ?_
      show Steps p.tables e below (Tr4.setTop (mkF m 39 #[.val (.ref o0), .val (.ref wL)] [])) _
      refine XS.aloadN Xr4.here hx rfl (hb hby d2_39) rfl rfl ?_
      show Steps p.tables e below (Tr4.setTop (mkF m 40 #[.val (.ref o0), .val (.ref wL)] [(.ref wL)])) _
      jvm_step Xr4.here [Xr4.here.top, hx, (hb hby d2_40), Xr4.method', Bd.returns, Value.isRef, FieldType.isReference]
      first | (intro acts; rw [hr _ acts rfl rfl rfl]) | rw [hr _ _ rfl rfl rfl]
      exact Steps.refl _
    · show Q_app Z o0 bN kN bs wL wI iC h0 n0 _ Tr4.heap _
      rw [er4]
      exact ⟨by rw [hf], Nr3, rfl⟩
  · by_cases hI : own_I = bs
    · have hf := own_app2 wL wI hL hI
      obtain ⟨Tr1, Xr1, er1, str1⟩ := getS2 X0 hx hZ hown (host := "") (Or.inl (hw _ (List.mem_of_getElem? (i := 20) rfl))) Via.refl e0 S_L (g := (mkF m 2 #[.val (.ref o0), .val .null] [])) rfl (hb hby d2_2)
      obtain ⟨Tr2, Xr2, er2, str2⟩ := getF Xr1 hx hZ hown (host := "") (Or.inl (hw _ (List.mem_of_getElem? (i := 21) rfl))) Via.refl er1 F_L (g := (mkF m 5 #[.val (.ref o0), .val .null] [(.ref wL)])) rfl rfl (hb hby d2_5)
      obtain ⟨cqr3, kqr3, qar3, qbr3, qcr3⟩ := isOf hZ er2 E_L
      obtain ⟨_, _, ⟨Tr3, Lr3, kr3, nr3⟩, -, Xr3, ⟨Lcr3, hQr3, lr3, yr3, zr3⟩, str3⟩ := Xr2.virtualBack hx (y := (⟨"java/lang/String", "equals", "(Ljava/lang/Object;)Z"⟩ : MethodName)) (z := (⟨"java/lang/String", "equals", "(Ljava/lang/Object;)Z"⟩ : MethodName)) hown (mvT hZ (hw _ (List.mem_of_getElem? (i := 23) rfl))) (mvT hZ (hw _ (List.mem_of_getElem? (i := 10) rfl))) (notFace_of_selects (args := #[]) (mvT hZ (hw _ (List.mem_of_getElem? (i := 12) rfl)))) (mvT hZ (hw _ (List.mem_of_getElem? (i := 12) rfl))) (mvT hZ (hw _ (List.mem_of_getElem? (i := 11) rfl))) (by decide) (backOf (W := 0) (rm_eqs l Z a0 hw [] uL o0 bL bN kL kN own_L bs iC h0 n0 Z0 own_L4 hlen E_L C_L V_L K_L E_N C_N V_N K_N S_C hC) hZ (hw _ (List.mem_of_getElem? (i := 13) rfl)) (hw _ (List.mem_of_getElem? (i := 2) rfl)) (by decide) (by decide)) qar3 qcr3 (g := (mkF m 9 #[.val (.ref o0), .val .null] [(.ref o0), (.ref uL)])) rfl (by rw [hml]; rfl) (Steps.refl _) (argsL := [(.ref o0)]) (rest := []) (lenOf pd_app_0 rfl) rfl (by show 2 * 0 + _ ≤ _; exact Nat.le_of_eq rfl) (hb hby d2_9) (fun _ _ => ⟨rfl, er2, (by decide : 0 + 0 ≤ _), (by decide : 0 + 0 ≤ _)⟩)
      dsimp only [Pt.U, Pt.locs, Pt.cells, Pt.slots] at Xr3 lr3 yr3 zr3 str3 hQr3
      subst lr3 yr3 zr3
      obtain ⟨rfl, Nr3q, er3⟩ := hQr3
      have Nr3 := Fr.app N0 Nr3q
      obtain ⟨Tr4, Xr4, er4, str4⟩ := getS2 Xr3 hx hZ hown (host := "") (Or.inl (hw _ (List.mem_of_getElem? (i := 35) rfl))) Via.refl er3 S_I (g := (mkF m 22 #[.val (.ref o0), .val .null] [])) rfl (hb hby d2_22)
      obtain ⟨Tr5, Xr5, er5, str5⟩ := getF Xr4 hx hZ hown (host := "") (Or.inl (hw _ (List.mem_of_getElem? (i := 21) rfl))) Via.refl er4 F_I (g := (mkF m 25 #[.val (.ref o0), .val .null] [(.ref wI)])) rfl rfl (hb hby d2_25)
      obtain ⟨cqr6, kqr6, qar6, qbr6, qcr6⟩ := isOf hZ er5 E_I
      obtain ⟨_, _, ⟨Tr6, Lr6, kr6, nr6⟩, -, Xr6, ⟨Lcr6, hQr6, lr6, yr6, zr6⟩, str6⟩ := Xr5.virtualBack hx (y := (⟨"java/lang/String", "equals", "(Ljava/lang/Object;)Z"⟩ : MethodName)) (z := (⟨"java/lang/String", "equals", "(Ljava/lang/Object;)Z"⟩ : MethodName)) hown (mvT hZ (hw _ (List.mem_of_getElem? (i := 23) rfl))) (mvT hZ (hw _ (List.mem_of_getElem? (i := 10) rfl))) (notFace_of_selects (args := #[]) (mvT hZ (hw _ (List.mem_of_getElem? (i := 12) rfl)))) (mvT hZ (hw _ (List.mem_of_getElem? (i := 12) rfl))) (mvT hZ (hw _ (List.mem_of_getElem? (i := 11) rfl))) (by decide) (backOf (W := 0) (rm_eqs l Z a0 hw [] uI o0 bI bN kI kN own_I bs iC h0 n0 Z0 own_I4 hlen E_I C_I V_I K_I E_N C_N V_N K_N S_C hC) hZ (hw _ (List.mem_of_getElem? (i := 13) rfl)) (hw _ (List.mem_of_getElem? (i := 2) rfl)) (by decide) (by decide)) qar6 qcr6 (g := (mkF m 29 #[.val (.ref o0), .val .null] [(.ref o0), (.ref uI)])) rfl (by rw [hml]; rfl) (Steps.refl _) (argsL := [(.ref o0)]) (rest := []) (lenOf pd_app_0 rfl) rfl (by show 2 * 0 + _ ≤ _; exact Nat.le_of_eq rfl) (hb hby d2_29) (fun _ _ => ⟨rfl, er5, (by decide : 0 + 0 ≤ _), (by decide : 0 + 0 ≤ _)⟩)
      dsimp only [Pt.U, Pt.locs, Pt.cells, Pt.slots] at Xr6 lr6 yr6 zr6 str6 hQr6
      subst lr6 yr6 zr6
      obtain ⟨rfl, Nr6q, er6⟩ := hQr6
      have Nr6 := Fr.app Nr3 Nr6q
      obtain ⟨Tr7, Xr7, er7, str7⟩ := getS2 Xr6 hx hZ hown (host := "") (Or.inl (hw _ (List.mem_of_getElem? (i := 35) rfl))) Via.refl er6 S_I (g := (mkF m 35 #[.val (.ref o0), .val .null] [])) rfl (hb hby d2_35)
      obtain ⟨fs, hr, hrun, hended, hW, hsame⟩ := Xr7.leave (v := some (.ref wI)) (fun h => by rw [Bd.returns] at h; cases h)
      refine ⟨_, _, pre0 _ ?_, hrun, hended, _, _, rfl, ?_, ⟨_, rfl⟩, hW, hsame.mono (by decide) (by decide)⟩
      · show Steps p.tables e below (s₁.setTop (mkF m 0 #[.val (.ref o0), .unset] [])) _
        refine XS.aconstNull X0.here hx rfl (hb hby d2_0) ?_
        show Steps p.tables e below (s₁.setTop (mkF m 1 #[.val (.ref o0), .unset] [.null])) _
        refine XS.astoreN X0.here hx rfl (hb hby d2_1) rfl rfl (l' := #[.val (.ref o0), .val .null]) rfl ?_
        show Steps p.tables e below (s₁.setTop (mkF m 2 #[.val (.ref o0), .val .null] [])) _
        refine str1 _ ?_
        show Steps p.tables e below (Tr1.setTop (mkF m 5 #[.val (.ref o0), .val .null] [(.ref wL)])) _
        refine str2 _ ?_
        show Steps p.tables e below (Tr2.setTop (mkF m 8 #[.val (.ref o0), .val .null] [(.ref uL)])) _
        refine XS.aloadN Xr2.here hx rfl (hb hby d2_8) rfl rfl ?_
        show Steps p.tables e below (Tr2.setTop (mkF m 9 #[.val (.ref o0), .val .null] [(.ref o0), (.ref uL)])) _
        refine str3.trans ?_
        show Steps p.tables e below (Tr3.setTop (mkF m 12 #[.val (.ref o0), .val .null] [(.int (own_eqI own_L bs))])) _
        refine XS.ifYes Xr3.here hx rfl (pc0 := 12) (pc' := 22) rfl (hb hby d2_12) rfl ((if0 _ _).trans (teq (by rw [own_eq0 hL])).1) (by decide) (by decide) ?_
        show Steps p.tables e below (Tr3.setTop (mkF m 22 #[.val (.ref o0), .val .null] [])) _
        refine str4 _ ?_
        show Steps p.tables e below (Tr4.setTop (mkF m 25 #[.val (.ref o0), .val .null] [(.ref wI)])) _
        refine str5 _ ?_
        show Steps p.tables e below (Tr5.setTop (mkF m 28 #[.val (.ref o0), .val .null] [(.ref uI)])) _
        refine XS.aloadN Xr5.here hx rfl (hb hby d2_28) rfl rfl ?_
        show Steps p.tables e below (Tr5.setTop (mkF m 29 #[.val (.ref o0), .val .null] [(.ref o0), (.ref uI)])) _
        refine str6.trans ?_
        show Steps p.tables e below (Tr6.setTop (mkF m 32 #[.val (.ref o0), .val .null] [(.int (own_eqI own_I bs))])) _
        refine XS.ifNo Xr6.here hx rfl (hb hby d2_32) rfl ((if0 _ _).trans (feq (by rw [own_eq1 hI]; decide)).1) ?_
        show Steps p.tables e below (Tr6.setTop (mkF m 35 #[.val (.ref o0), .val .null] [])) _
        refine str7 _ ?_
        show Steps p.tables e below (Tr7.setTop (mkF m 38 #[.val (.ref o0), .val .null] [(.ref wI)])) _
        refine XS.astoreN Xr7.here hx rfl (hb hby d2_38) rfl rfl (l' := #[.val (.ref o0), .val (.ref wI)]) rfl ?_
        show Steps p.tables e below (Tr7.setTop (mkF m 39 #[.val (.ref o0), .val (.ref wI)] [])) _
        refine XS.aloadN Xr7.here hx rfl (hb hby d2_39) rfl rfl ?_
        show Steps p.tables e below (Tr7.setTop (mkF m 40 #[.val (.ref o0), .val (.ref wI)] [(.ref wI)])) _
        jvm_step Xr7.here [Xr7.here.top, hx, (hb hby d2_40), Xr7.method', Bd.returns, Value.isRef, FieldType.isReference]
        first | (intro acts; rw [hr _ acts rfl rfl rfl]) | rw [hr _ _ rfl rfl rfl]
        exact Steps.refl _
      · show Q_app Z o0 bN kN bs wL wI iC h0 n0 _ Tr7.heap _
        rw [er7]
        exact ⟨by rw [hf], Nr6, rfl⟩
    · have hf := own_app3 wL wI hL hI
      obtain ⟨Tr1, Xr1, er1, str1⟩ := getS2 X0 hx hZ hown (host := "") (Or.inl (hw _ (List.mem_of_getElem? (i := 20) rfl))) Via.refl e0 S_L (g := (mkF m 2 #[.val (.ref o0), .val .null] [])) rfl (hb hby d2_2)
      obtain ⟨Tr2, Xr2, er2, str2⟩ := getF Xr1 hx hZ hown (host := "") (Or.inl (hw _ (List.mem_of_getElem? (i := 21) rfl))) Via.refl er1 F_L (g := (mkF m 5 #[.val (.ref o0), .val .null] [(.ref wL)])) rfl rfl (hb hby d2_5)
      obtain ⟨cqr3, kqr3, qar3, qbr3, qcr3⟩ := isOf hZ er2 E_L
      obtain ⟨_, _, ⟨Tr3, Lr3, kr3, nr3⟩, -, Xr3, ⟨Lcr3, hQr3, lr3, yr3, zr3⟩, str3⟩ := Xr2.virtualBack hx (y := (⟨"java/lang/String", "equals", "(Ljava/lang/Object;)Z"⟩ : MethodName)) (z := (⟨"java/lang/String", "equals", "(Ljava/lang/Object;)Z"⟩ : MethodName)) hown (mvT hZ (hw _ (List.mem_of_getElem? (i := 23) rfl))) (mvT hZ (hw _ (List.mem_of_getElem? (i := 10) rfl))) (notFace_of_selects (args := #[]) (mvT hZ (hw _ (List.mem_of_getElem? (i := 12) rfl)))) (mvT hZ (hw _ (List.mem_of_getElem? (i := 12) rfl))) (mvT hZ (hw _ (List.mem_of_getElem? (i := 11) rfl))) (by decide) (backOf (W := 0) (rm_eqs l Z a0 hw [] uL o0 bL bN kL kN own_L bs iC h0 n0 Z0 own_L4 hlen E_L C_L V_L K_L E_N C_N V_N K_N S_C hC) hZ (hw _ (List.mem_of_getElem? (i := 13) rfl)) (hw _ (List.mem_of_getElem? (i := 2) rfl)) (by decide) (by decide)) qar3 qcr3 (g := (mkF m 9 #[.val (.ref o0), .val .null] [(.ref o0), (.ref uL)])) rfl (by rw [hml]; rfl) (Steps.refl _) (argsL := [(.ref o0)]) (rest := []) (lenOf pd_app_0 rfl) rfl (by show 2 * 0 + _ ≤ _; exact Nat.le_of_eq rfl) (hb hby d2_9) (fun _ _ => ⟨rfl, er2, (by decide : 0 + 0 ≤ _), (by decide : 0 + 0 ≤ _)⟩)
      dsimp only [Pt.U, Pt.locs, Pt.cells, Pt.slots] at Xr3 lr3 yr3 zr3 str3 hQr3
      subst lr3 yr3 zr3
      obtain ⟨rfl, Nr3q, er3⟩ := hQr3
      have Nr3 := Fr.app N0 Nr3q
      obtain ⟨Tr4, Xr4, er4, str4⟩ := getS2 Xr3 hx hZ hown (host := "") (Or.inl (hw _ (List.mem_of_getElem? (i := 35) rfl))) Via.refl er3 S_I (g := (mkF m 22 #[.val (.ref o0), .val .null] [])) rfl (hb hby d2_22)
      obtain ⟨Tr5, Xr5, er5, str5⟩ := getF Xr4 hx hZ hown (host := "") (Or.inl (hw _ (List.mem_of_getElem? (i := 21) rfl))) Via.refl er4 F_I (g := (mkF m 25 #[.val (.ref o0), .val .null] [(.ref wI)])) rfl rfl (hb hby d2_25)
      obtain ⟨cqr6, kqr6, qar6, qbr6, qcr6⟩ := isOf hZ er5 E_I
      obtain ⟨_, _, ⟨Tr6, Lr6, kr6, nr6⟩, -, Xr6, ⟨Lcr6, hQr6, lr6, yr6, zr6⟩, str6⟩ := Xr5.virtualBack hx (y := (⟨"java/lang/String", "equals", "(Ljava/lang/Object;)Z"⟩ : MethodName)) (z := (⟨"java/lang/String", "equals", "(Ljava/lang/Object;)Z"⟩ : MethodName)) hown (mvT hZ (hw _ (List.mem_of_getElem? (i := 23) rfl))) (mvT hZ (hw _ (List.mem_of_getElem? (i := 10) rfl))) (notFace_of_selects (args := #[]) (mvT hZ (hw _ (List.mem_of_getElem? (i := 12) rfl)))) (mvT hZ (hw _ (List.mem_of_getElem? (i := 12) rfl))) (mvT hZ (hw _ (List.mem_of_getElem? (i := 11) rfl))) (by decide) (backOf (W := 0) (rm_eqs l Z a0 hw [] uI o0 bI bN kI kN own_I bs iC h0 n0 Z0 own_I4 hlen E_I C_I V_I K_I E_N C_N V_N K_N S_C hC) hZ (hw _ (List.mem_of_getElem? (i := 13) rfl)) (hw _ (List.mem_of_getElem? (i := 2) rfl)) (by decide) (by decide)) qar6 qcr6 (g := (mkF m 29 #[.val (.ref o0), .val .null] [(.ref o0), (.ref uI)])) rfl (by rw [hml]; rfl) (Steps.refl _) (argsL := [(.ref o0)]) (rest := []) (lenOf pd_app_0 rfl) rfl (by show 2 * 0 + _ ≤ _; exact Nat.le_of_eq rfl) (hb hby d2_29) (fun _ _ => ⟨rfl, er5, (by decide : 0 + 0 ≤ _), (by decide : 0 + 0 ≤ _)⟩)
      dsimp only [Pt.U, Pt.locs, Pt.cells, Pt.slots] at Xr6 lr6 yr6 zr6 str6 hQr6
      subst lr6 yr6 zr6
      obtain ⟨rfl, Nr6q, er6⟩ := hQr6
      have Nr6 := Fr.app Nr3 Nr6q
      obtain ⟨fs, hr, hrun, hended, hW, hsame⟩ := Xr6.leave (v := some .null) (fun h => by rw [Bd.returns] at h; cases h)
      refine ⟨_, _, pre0 _ ?_, hrun, hended, _, _, rfl, ?_, ⟨_, rfl⟩, hW, hsame.mono (by decide) (by decide)⟩
      · show Steps p.tables e below (s₁.setTop (mkF m 0 #[.val (.ref o0), .unset] [])) _
        refine XS.aconstNull X0.here hx rfl (hb hby d2_0) ?_
        show Steps p.tables e below (s₁.setTop (mkF m 1 #[.val (.ref o0), .unset] [.null])) _
        refine XS.astoreN X0.here hx rfl (hb hby d2_1) rfl rfl (l' := #[.val (.ref o0), .val .null]) rfl ?_
        show Steps p.tables e below (s₁.setTop (mkF m 2 #[.val (.ref o0), .val .null] [])) _
        refine str1 _ ?_
        show Steps p.tables e below (Tr1.setTop (mkF m 5 #[.val (.ref o0), .val .null] [(.ref wL)])) _
        refine str2 _ ?_
        show Steps p.tables e below (Tr2.setTop (mkF m 8 #[.val (.ref o0), .val .null] [(.ref uL)])) _
        refine XS.aloadN Xr2.here hx rfl (hb hby d2_8) rfl rfl ?_
        show Steps p.tables e below (Tr2.setTop (mkF m 9 #[.val (.ref o0), .val .null] [(.ref o0), (.ref uL)])) _
        refine str3.trans ?_
        show Steps p.tables e below (Tr3.setTop (mkF m 12 #[.val (.ref o0), .val .null] [(.int (own_eqI own_L bs))])) _
        refine XS.ifYes Xr3.here hx rfl (pc0 := 12) (pc' := 22) rfl (hb hby d2_12) rfl ((if0 _ _).trans (teq (by rw [own_eq0 hL])).1) (by decide) (by decide) ?_
        show Steps p.tables e below (Tr3.setTop (mkF m 22 #[.val (.ref o0), .val .null] [])) _
        refine str4 _ ?_
        show Steps p.tables e below (Tr4.setTop (mkF m 25 #[.val (.ref o0), .val .null] [(.ref wI)])) _
        refine str5 _ ?_
        show Steps p.tables e below (Tr5.setTop (mkF m 28 #[.val (.ref o0), .val .null] [(.ref uI)])) _
        refine XS.aloadN Xr5.here hx rfl (hb hby d2_28) rfl rfl ?_
        show Steps p.tables e below (Tr5.setTop (mkF m 29 #[.val (.ref o0), .val .null] [(.ref o0), (.ref uI)])) _
        refine str6.trans ?_
        show Steps p.tables e below (Tr6.setTop (mkF m 32 #[.val (.ref o0), .val .null] [(.int (own_eqI own_I bs))])) _
        refine XS.ifYes Xr6.here hx rfl (pc0 := 32) (pc' := 39) rfl (hb hby d2_32) rfl ((if0 _ _).trans (teq (by rw [own_eq0 hI])).1) (by decide) (by decide) ?_
        show Steps p.tables e below (Tr6.setTop (mkF m 39 #[.val (.ref o0), .val .null] [])) _
        refine XS.aloadN Xr6.here hx rfl (hb hby d2_39) rfl rfl ?_
        show Steps p.tables e below (Tr6.setTop (mkF m 40 #[.val (.ref o0), .val .null] [.null])) _
        jvm_step Xr6.here [Xr6.here.top, hx, (hb hby d2_40), Xr6.method', Bd.returns, Value.isRef, FieldType.isReference]
        first | (intro acts; rw [hr _ acts rfl rfl rfl]) | rw [hr _ _ rfl rfl rfl]
        exact Steps.refl _
      · show Q_app Z o0 bN kN bs wL wI iC h0 n0 _ Tr6.heap _
        rw [er6]
        exact ⟨by rw [hf], Nr6, rfl⟩
theorem ef_appn (m : MethodId) : entryFrame m #[.null] 2 = mkF m 0 #[.val .null, .unset] [] := by first | (simp [entryFrame, mkF, argsToLocals, Value.category]; done) | rfl
def Q_appn (Z : State) (wL wI : Addr) (h0 : Heap) (n0 : Nat) (v : Option Value) (h : Heap) (L : List Loc) : Prop := v = some .null ∧ Fr n0 L ∧ h = h0
set_option maxRecDepth 65536 in
set_option maxHeartbeats 40000000 in
theorem rm_appn (l : Launch) (Z : State) (a0 : Array Value) (hw : ∀ d ∈ tables_1, d.before a0 Z = true) (ws : List Jvm.Cond) (wL wI : Addr) (h0 : Heap) (n0 : Nat) (Z0 : n0 ≤ h0.size) (S_L : Sta Z h0 "com/example/vestry/vestry/census/PaymentForm" "LUMP_SUM" "Lcom/example/vestry/vestry/census/PaymentForm;" (.ref wL)) (S_I : Sta Z h0 "com/example/vestry/vestry/census/PaymentForm" "INSTALLMENTS" "Lcom/example/vestry/vestry/census/PaymentForm;" (.ref wI)) (W_L : own_W Z h0 wL own_L) (W_I : own_W Z h0 wI own_I) :
    MetFree l (⟨"com/example/vestry/vestry/census/PaymentForm", "appliedFor", "(Ljava/lang/String;)Lcom/example/vestry/vestry/census/PaymentForm;"⟩ : MethodName) (head1 (Jvm.Cond.code (⟨"com/example/vestry/vestry/census/PaymentForm", "appliedFor", "(Ljava/lang/String;)Lcom/example/vestry/vestry/census/PaymentForm;"⟩ : MethodName) prog_41_method_4_code 2 (some (.object "com/example/vestry/vestry/census/PaymentForm")) :: ws) ({ frames := 2, cells := 0, slots := 0, locals := 28 } : Room)) (fun a U => a = #[.null] ∧ Z.Warmed39 U.vm ∧ U.heap = h0) (fun _ _ _ _ _ => True) (fun _ U o U' => ∃ v L, o = .returned v ∧ Q_appn Z wL wI h0 n0 v U'.heap L ∧ FrameEnd U o U' L ({ frames := 2, cells := 0, slots := 0, locals := 28 } : Room).cells ({ frames := 2, cells := 0, slots := 0, locals := 28 } : Room).slots) := by
  refine MetFree.of_bodySF (plainFor_of_name pn_app) hisR ?_
  intro p e s m args below meth c s₁ Bd hml0 hP hK
  obtain ⟨rfl, hZ, hh⟩ := hP
  have hx := Bd.exec
  have hby := Bd.bytes
  have hml : c.maxLocals = 2 := hml0
  have hown : s.vm.findClass "com/example/vestry/vestry/census/PaymentForm" = some m.cls := findClass_of_methodNamed Bd.named
  have hnm := (name_of_methodNamed Bd.named Bd.method).1
  have X0 : Stand p l e ({ frames := 2, cells := 0, slots := 0, locals := 28 } : Room) s m #[.null] below meth c s₁ [] 0 0 := Stand.of_body Bd
  have e0 : s₁.heap = h0 := by rw [← hh, Bd.state]; rfl
  have N0 := Fr.nil n0
  have pre0 : ∀ tg, Steps p.tables e below (s₁.setTop (mkF m 0 #[.val .null, .unset] [])) tg → Steps p.tables e below (s₁.setTop (entryFrame m #[.null] 2)) tg := fun tg kg => castTop (ef_appn m ) kg
  obtain ⟨uL, bL, kL, F_L, E_L, C_L, V_L, K_L⟩ := W_L
  obtain ⟨uI, bI, kI, F_I, E_I, C_I, V_I, K_I⟩ := W_I
  obtain ⟨Tr1, Xr1, er1, str1⟩ := getS2 X0 hx hZ hown (host := "") (Or.inl (hw _ (List.mem_of_getElem? (i := 20) rfl))) Via.refl e0 S_L (g := (mkF m 2 #[.val .null, .val .null] [])) rfl (hb hby d2_2)
  obtain ⟨Tr2, Xr2, er2, str2⟩ := getF Xr1 hx hZ hown (host := "") (Or.inl (hw _ (List.mem_of_getElem? (i := 21) rfl))) Via.refl er1 F_L (g := (mkF m 5 #[.val .null, .val .null] [(.ref wL)])) rfl rfl (hb hby d2_5)
  obtain ⟨cqr3, kqr3, qar3, qbr3, qcr3⟩ := isOf hZ er2 E_L
  obtain ⟨_, _, ⟨Tr3, Lr3, kr3, nr3⟩, -, Xr3, ⟨Lcr3, hQr3, lr3, yr3, zr3⟩, str3⟩ := Xr2.virtualBack hx (y := (⟨"java/lang/String", "equals", "(Ljava/lang/Object;)Z"⟩ : MethodName)) (z := (⟨"java/lang/String", "equals", "(Ljava/lang/Object;)Z"⟩ : MethodName)) hown (mvT hZ (hw _ (List.mem_of_getElem? (i := 23) rfl))) (mvT hZ (hw _ (List.mem_of_getElem? (i := 10) rfl))) (notFace_of_selects (args := #[]) (mvT hZ (hw _ (List.mem_of_getElem? (i := 12) rfl)))) (mvT hZ (hw _ (List.mem_of_getElem? (i := 12) rfl))) (mvT hZ (hw _ (List.mem_of_getElem? (i := 11) rfl))) (by decide) (backOf (W := 0) (rm_eqn l Z a0 hw [] uL  h0 n0 Z0 ) hZ (hw _ (List.mem_of_getElem? (i := 13) rfl)) (hw _ (List.mem_of_getElem? (i := 2) rfl)) (by decide) (by decide)) qar3 qcr3 (g := (mkF m 9 #[.val .null, .val .null] [.null, (.ref uL)])) rfl (by rw [hml]; rfl) (Steps.refl _) (argsL := [.null]) (rest := []) (lenOf pd_app_0 rfl) rfl (by show 2 * 0 + _ ≤ _; exact Nat.le_of_eq rfl) (hb hby d2_9) (fun _ _ => ⟨rfl, er2, (by decide : 0 + 0 ≤ _), (by decide : 0 + 0 ≤ _)⟩)
  dsimp only [Pt.U, Pt.locs, Pt.cells, Pt.slots] at Xr3 lr3 yr3 zr3 str3 hQr3
  subst lr3 yr3 zr3
  obtain ⟨rfl, Nr3q, er3⟩ := hQr3
  have Nr3 := Fr.app N0 Nr3q
  obtain ⟨Tr4, Xr4, er4, str4⟩ := getS2 Xr3 hx hZ hown (host := "") (Or.inl (hw _ (List.mem_of_getElem? (i := 35) rfl))) Via.refl er3 S_I (g := (mkF m 22 #[.val .null, .val .null] [])) rfl (hb hby d2_22)
  obtain ⟨Tr5, Xr5, er5, str5⟩ := getF Xr4 hx hZ hown (host := "") (Or.inl (hw _ (List.mem_of_getElem? (i := 21) rfl))) Via.refl er4 F_I (g := (mkF m 25 #[.val .null, .val .null] [(.ref wI)])) rfl rfl (hb hby d2_25)
  obtain ⟨cqr6, kqr6, qar6, qbr6, qcr6⟩ := isOf hZ er5 E_I
  obtain ⟨_, _, ⟨Tr6, Lr6, kr6, nr6⟩, -, Xr6, ⟨Lcr6, hQr6, lr6, yr6, zr6⟩, str6⟩ := Xr5.virtualBack hx (y := (⟨"java/lang/String", "equals", "(Ljava/lang/Object;)Z"⟩ : MethodName)) (z := (⟨"java/lang/String", "equals", "(Ljava/lang/Object;)Z"⟩ : MethodName)) hown (mvT hZ (hw _ (List.mem_of_getElem? (i := 23) rfl))) (mvT hZ (hw _ (List.mem_of_getElem? (i := 10) rfl))) (notFace_of_selects (args := #[]) (mvT hZ (hw _ (List.mem_of_getElem? (i := 12) rfl)))) (mvT hZ (hw _ (List.mem_of_getElem? (i := 12) rfl))) (mvT hZ (hw _ (List.mem_of_getElem? (i := 11) rfl))) (by decide) (backOf (W := 0) (rm_eqn l Z a0 hw [] uI  h0 n0 Z0 ) hZ (hw _ (List.mem_of_getElem? (i := 13) rfl)) (hw _ (List.mem_of_getElem? (i := 2) rfl)) (by decide) (by decide)) qar6 qcr6 (g := (mkF m 29 #[.val .null, .val .null] [.null, (.ref uI)])) rfl (by rw [hml]; rfl) (Steps.refl _) (argsL := [.null]) (rest := []) (lenOf pd_app_0 rfl) rfl (by show 2 * 0 + _ ≤ _; exact Nat.le_of_eq rfl) (hb hby d2_29) (fun _ _ => ⟨rfl, er5, (by decide : 0 + 0 ≤ _), (by decide : 0 + 0 ≤ _)⟩)
  dsimp only [Pt.U, Pt.locs, Pt.cells, Pt.slots] at Xr6 lr6 yr6 zr6 str6 hQr6
  subst lr6 yr6 zr6
  obtain ⟨rfl, Nr6q, er6⟩ := hQr6
  have Nr6 := Fr.app Nr3 Nr6q
  obtain ⟨fs, hr, hrun, hended, hW, hsame⟩ := Xr6.leave (v := some .null) (fun h => by rw [Bd.returns] at h; cases h)
  refine ⟨_, _, pre0 _ ?_, hrun, hended, _, _, rfl, ?_, ⟨_, rfl⟩, hW, hsame.mono (by decide) (by decide)⟩
  · show Steps p.tables e below (s₁.setTop (mkF m 0 #[.val .null, .unset] [])) _
    refine XS.aconstNull X0.here hx rfl (hb hby d2_0) ?_
    show Steps p.tables e below (s₁.setTop (mkF m 1 #[.val .null, .unset] [.null])) _
    refine XS.astoreN X0.here hx rfl (hb hby d2_1) rfl rfl (l' := #[.val .null, .val .null]) rfl ?_
    show Steps p.tables e below (s₁.setTop (mkF m 2 #[.val .null, .val .null] [])) _
    refine str1 _ ?_
    show Steps p.tables e below (Tr1.setTop (mkF m 5 #[.val .null, .val .null] [(.ref wL)])) _
    refine str2 _ ?_
    show Steps p.tables e below (Tr2.setTop (mkF m 8 #[.val .null, .val .null] [(.ref uL)])) _
    refine XS.aloadN Xr2.here hx rfl (hb hby d2_8) rfl rfl ?_
    show Steps p.tables e below (Tr2.setTop (mkF m 9 #[.val .null, .val .null] [.null, (.ref uL)])) _
    refine str3.trans ?_
    show Steps p.tables e below (Tr3.setTop (mkF m 12 #[.val .null, .val .null] [(.int (0 : Int32))])) _
    refine XS.ifYes Xr3.here hx rfl (pc0 := 12) (pc' := 22) rfl (hb hby d2_12) rfl ((if0 _ _).trans (teq (rfl : (0 : Int32) = (0 : Int32))).1) (by decide) (by decide) ?_
    show Steps p.tables e below (Tr3.setTop (mkF m 22 #[.val .null, .val .null] [])) _
    refine str4 _ ?_
    show Steps p.tables e below (Tr4.setTop (mkF m 25 #[.val .null, .val .null] [(.ref wI)])) _
    refine str5 _ ?_
    show Steps p.tables e below (Tr5.setTop (mkF m 28 #[.val .null, .val .null] [(.ref uI)])) _
    refine XS.aloadN Xr5.here hx rfl (hb hby d2_28) rfl rfl ?_
    show Steps p.tables e below (Tr5.setTop (mkF m 29 #[.val .null, .val .null] [.null, (.ref uI)])) _
    refine str6.trans ?_
    show Steps p.tables e below (Tr6.setTop (mkF m 32 #[.val .null, .val .null] [(.int (0 : Int32))])) _
    refine XS.ifYes Xr6.here hx rfl (pc0 := 32) (pc' := 39) rfl (hb hby d2_32) rfl ((if0 _ _).trans (teq (rfl : (0 : Int32) = (0 : Int32))).1) (by decide) (by decide) ?_
    show Steps p.tables e below (Tr6.setTop (mkF m 39 #[.val .null, .val .null] [])) _
    refine XS.aloadN Xr6.here hx rfl (hb hby d2_39) rfl rfl ?_
    show Steps p.tables e below (Tr6.setTop (mkF m 40 #[.val .null, .val .null] [.null])) _
    jvm_step Xr6.here [Xr6.here.top, hx, (hb hby d2_40), Xr6.method', Bd.returns, Value.isRef, FieldType.isReference]
    first | (intro acts; rw [hr _ acts rfl rfl rfl]) | rw [hr _ _ rfl rfl rfl]
    exact Steps.refl _
  · show Q_appn Z wL wI h0 n0 _ Tr6.heap _
    rw [er6]
    exact ⟨rfl, Nr6, rfl⟩
theorem pd_law_0 : parseMethodDescriptor "(Ljava/lang/Object;)Z" = some ⟨[(.object "java/lang/Object")], some .boolean⟩ := by decide +kernel
theorem pd_law_1 : parseMethodDescriptor "(Ljava/lang/String;)Lcom/example/vestry/vestry/census/PaymentForm;" = some ⟨[(.object "java/lang/String")], some (.object "com/example/vestry/vestry/census/PaymentForm")⟩ := by decide +kernel
theorem pd_law_2 : parseMethodDescriptor "([C)V" = some ⟨[(.array .char)], none⟩ := by decide +kernel
theorem own_os {s0 s1 s2 s3 s4 s5 s6 s7 x9 : Slot} {v : Value} (h : One x9) : storeLocals #[s0, s1, s2, s3, s4, s5, s6, s7, .val v, x9] 9 .null = some #[s0, s1, s2, s3, s4, s5, s6, s7, .val v, .val .null] := by
  rcases h with rfl | ⟨w, rfl, hw⟩
  · rfl
  · cases w <;> first | rfl | (simp [Value.category] at hw)
theorem pn_law : plainName "com/example/vestry/vestry/census/PaymentFormAppliedForPinLaw" = true := by first | (simp [plainName, overriddenIn]; done) | decide +kernel
set_option maxRecDepth 65536 in
set_option maxHeartbeats 40000000 in
theorem own_end {p : Program} {l : Launch} {e : Env} {s : State} {m : MethodId} {args : Array Value} {below : List Frame} {meth : Method} {c : Code} {T0 : State} {locs : List Loc} {Z : State} {a0 : Array Value} {h0 : Heap} {vm0 : Vm} {k0 n0 : Nat} (s0 s1 s2 s3 s4 s5 s6 s7 x9 : Slot) (hx9 : One x9) (o0 bN : Addr) (kN : ClassId) (bs : List Int32) (wL wI : Addr) (iC : Int32)
    (X0 : Stand p l e room_1 (s.setVm vm0) m args below meth c T0 locs 8 200) (hx : p.tables.exec = Jvm.exec) (hret : meth.sig.returnType = some .boolean) (hlocks : meth.locks = false) (hZ : Z.Warmed39 (s.setVm vm0).vm) (hw : ∀ d ∈ tables_1, d.before a0 Z = true) (hby : c.code = code) (hml : c.maxLocals = 10) (hown : (s.setVm vm0).vm.findClass "com/example/vestry/vestry/census/PaymentFormAppliedForPinLaw" = some m.cls) (e0 : T0.heap = h0)
    (hS : s.Since vm0 k0) (hk : k0 ≤ h0.size) (N0 : Fr n0 locs) (Z0 : n0 ≤ h0.size) (wStr : ∀ d ∈ Bundle.stringAtoms, d.before a0 Z = true) (hEW : EW Z a0 consts_1) (hH : CHv Z consts_1 vm0 h0)
    (S_L : Sta Z h0 "com/example/vestry/vestry/census/PaymentForm" "LUMP_SUM" "Lcom/example/vestry/vestry/census/PaymentForm;" (.ref wL)) (S_I : Sta Z h0 "com/example/vestry/vestry/census/PaymentForm" "INSTALLMENTS" "Lcom/example/vestry/vestry/census/PaymentForm;" (.ref wI)) (W_L : own_W Z h0 wL own_L) (W_I : own_W Z h0 wI own_I) (S_C : Sta Z h0 "java/lang/String" "COMPACT_STRINGS" "Z" (.int iC)) (hC : ¬ (iC = (0 : Int32))) (hlen : bs.length ≤ 4000) (E_N : Exa Z h0 o0 "java/lang/String") (C_N : Fld Z h0 o0 "java/lang/String" "coder" "B" (.int (0 : Int32))) (V_N : Fld Z h0 o0 "java/lang/String" "value" "[B" (.ref bN)) (K_N : Arv Z h0 bN kN .byte (Int32.ofNat bs.length) (bs.map Value.int) (.int (0 : Int32))) :
    ∃ t, Steps p.tables e below (T0.setTop (mkF m 632 #[s0, s1, s2, s3, s4, s5, s6, s7, .val (.ref o0), x9] [])) t ∧ t.status = .running ∧ Ended t below (.returned (some (.int (1 : Int32)))) ∧ ∃ L, Fr n0 L ∧ ReturnedEndW s (.returned (some (.int (1 : Int32)))) t L room_1.cells room_1.slots := by
  by_cases hL : own_L = bs
  · have S_C' := S_C
    have S_L' := S_L
    have S_I' := S_I
    have W_L' := W_L
    have W_I' := W_I
    obtain ⟨ar1, Tr1, hr1, kr1, br1, kcr1, Xr1, er1, Exr1, hSr1, hkr1, hZr1, hownr1, ELr1, CLr1, VLr1, KLr1, lar1, lbr1, CHr1, LTr1, SFr1, str1⟩ := ldcCH (s := s) (vm0 := vm0) X0 hx hZ hown (hw _ (List.mem_of_getElem? (i := 1) rfl)) wStr e0 hS hk hEW (List.mem_of_getElem? (i := 0) rfl) hH (vs := own_L.map Value.int) (z := Int32.ofNat own_L.length) ⟨by decide, by first | rfl | decide⟩ (by decide) (by decide) (g := (mkF m 635 #[s0, s1, s2, s3, s4, s5, s6, s7, .val (.ref o0), .val .null] [])) rfl (hb hby at_635) (n := 32) (by decide) (by decide) (by decide) (by decide)
    have Zr1 : n0 ≤ hr1.size := Nat.le_trans Z0 Exr1.1
    obtain ⟨cqr2, kqr2, qar2, qbr2, qcr2⟩ := isOf hZr1 er1 ELr1
    obtain ⟨_, _, ⟨Tr2, Lr2, kr2, nr2⟩, -, Xr2, ⟨Lcr2, hQr2, lr2, yr2, zr2⟩, str2⟩ := Xr1.virtualBack hx (y := (⟨"java/lang/String", "equals", "(Ljava/lang/Object;)Z"⟩ : MethodName)) (z := (⟨"java/lang/String", "equals", "(Ljava/lang/Object;)Z"⟩ : MethodName)) hownr1 (mvT hZr1 (hw _ (List.mem_of_getElem? (i := 9) rfl))) (mvT hZr1 (hw _ (List.mem_of_getElem? (i := 10) rfl))) (notFace_of_selects (args := #[]) (mvT hZr1 (hw _ (List.mem_of_getElem? (i := 12) rfl)))) (mvT hZr1 (hw _ (List.mem_of_getElem? (i := 12) rfl))) (mvT hZr1 (hw _ (List.mem_of_getElem? (i := 11) rfl))) (by decide) (backOf (W := 0) (rm_eqs l Z a0 hw [] ar1 o0 br1 bN kcr1 kN own_L bs iC hr1 n0 Zr1 own_L4 hlen ELr1 CLr1 VLr1 KLr1 (E_N.ext Exr1) (C_N.ext Exr1) (V_N.ext Exr1) (K_N.ext Exr1) (S_C'.ext Exr1) hC) hZr1 (hw _ (List.mem_of_getElem? (i := 13) rfl)) (hw _ (List.mem_of_getElem? (i := 2) rfl)) (by decide) (by decide)) qar2 qcr2 (g := (mkF m 639 #[s0, s1, s2, s3, s4, s5, s6, s7, .val (.ref o0), .val .null] [(.ref o0), (.ref ar1)])) rfl (by rw [hml]; rfl) (Steps.refl _) (argsL := [(.ref o0)]) (rest := []) (lenOf pd_law_0 rfl) rfl (by show 2 * 0 + _ ≤ _; exact Nat.le_of_eq rfl) (hb hby at_639) (fun _ _ => ⟨rfl, er1, (by decide : 10 + 0 ≤ _), (by decide : 236 + 0 ≤ _)⟩)
    dsimp only [Pt.U, Pt.locs, Pt.cells, Pt.slots] at Xr2 lr2 yr2 zr2 str2 hQr2
    subst lr2 yr2 zr2
    obtain ⟨rfl, Nr2q, er2⟩ := hQr2
    have Nr2 := Fr.app N0 Nr2q
    obtain ⟨Lpr2, Xr2, Nr2⟩ := own_pack Xr2 Nr2
    obtain ⟨Tr3, Xr3, er3, str3⟩ := getS2 Xr2 hx hZr1 hownr1 (host := "") (Or.inl (hw _ (List.mem_of_getElem? (i := 14) rfl))) Via.refl er2 (S_L'.ext Exr1) (g := (mkF m 645 #[s0, s1, s2, s3, s4, s5, s6, s7, .val (.ref o0), .val .null] [])) rfl (hb hby at_645)
    obtain ⟨_, _, ⟨Tr4, Lr4, kr4, nr4⟩, -, Xr4, ⟨Lcr4, hQr4, lr4, yr4, zr4⟩, str4⟩ := Jvm.LawKit.callS Xr3 hx (y := (⟨"com/example/vestry/vestry/census/PaymentForm", "appliedFor", "(Ljava/lang/String;)Lcom/example/vestry/vestry/census/PaymentForm;"⟩ : MethodName)) hownr1 (mvT hZr1 (hw _ (List.mem_of_getElem? (i := 17) rfl))) (mvT hZr1 (hw _ (List.mem_of_getElem? (i := 18) rfl))) (mvT hZr1 (hw _ (List.mem_of_getElem? (i := 15) rfl))) (mvT hZr1 (hw _ (List.mem_of_getElem? (i := 19) rfl))) (by decide) (backOf (W := 0) (rm_app l Z a0 hw [] o0 bN kN bs wL wI iC hr1 n0 Zr1 (S_L'.ext Exr1) (S_I'.ext Exr1) (W_L'.ext Exr1) (W_I'.ext Exr1) (S_C'.ext Exr1) hC hlen (E_N.ext Exr1) (C_N.ext Exr1) (V_N.ext Exr1) (K_N.ext Exr1)) hZr1 (hw _ (List.mem_of_getElem? (i := 19) rfl)) (hw _ (List.mem_of_getElem? (i := 15) rfl)) (by decide) (by decide)) (g := (mkF m 670 #[s0, s1, s2, s3, s4, s5, s6, s7, .val (.ref o0), .val (.ref wL)] [(.ref o0)])) rfl (by rw [hml]; rfl) (argsL := [(.ref o0)]) (rest := []) (lenOf pd_law_1 rfl) rfl (by show 2 * 0 + _ ≤ _; exact Nat.le_of_eq rfl) (hb hby at_670) (fun _ _ => ⟨rfl, er3, (by decide : 10 + 0 ≤ _), (by decide : 236 + 0 ≤ _)⟩)
    dsimp only [Pt.U, Pt.locs, Pt.cells, Pt.slots] at Xr4 lr4 yr4 zr4 str4 hQr4
    subst lr4 yr4 zr4
    obtain ⟨rfl, Nr4q, er4⟩ := hQr4
    have Nr4 := Fr.app Nr2 Nr4q
    obtain ⟨Lpr4, Xr4, Nr4⟩ := own_pack Xr4 Nr4
    obtain ⟨fs, hr, hrun, hended, hEnd⟩ := Xr4.leaveW hSr1 (by rw [er4]; exact hkr1) (v := some (.int (1 : Int32))) (fun h => by rw [hret] at h; cases h) hlocks
    refine ⟨_, ?_, hrun, hended, _, Nr4, hEnd.1, hEnd.2.1, hEnd.2.2.1, hEnd.2.2.2.mono (by decide) (by decide)⟩
    show Steps p.tables e below (T0.setTop (mkF m 632 #[s0, s1, s2, s3, s4, s5, s6, s7, .val (.ref o0), x9] [])) _
    refine XS.aconstNull X0.here hx rfl (hb hby at_632) ?_
    show Steps p.tables e below (T0.setTop (mkF m 633 #[s0, s1, s2, s3, s4, s5, s6, s7, .val (.ref o0), x9] [.null])) _
    refine XS.astore X0.here hx rfl (hb hby at_633) rfl rfl (l' := #[s0, s1, s2, s3, s4, s5, s6, s7, .val (.ref o0), .val .null]) (own_os hx9) ?_
    show Steps p.tables e below (T0.setTop (mkF m 635 #[s0, s1, s2, s3, s4, s5, s6, s7, .val (.ref o0), .val .null] [])) _
    refine str1 _ ?_
    show Steps p.tables e below (Tr1.setTop (mkF m 637 #[s0, s1, s2, s3, s4, s5, s6, s7, .val (.ref o0), .val .null] [(.ref ar1)])) _
    refine XS.aload Xr1.here hx rfl (hb hby at_637) rfl rfl ?_
    show Steps p.tables e below (Tr1.setTop (mkF m 639 #[s0, s1, s2, s3, s4, s5, s6, s7, .val (.ref o0), .val .null] [(.ref o0), (.ref ar1)])) _
    refine str2.trans ?_
    show Steps p.tables e below (Tr2.setTop (mkF m 642 #[s0, s1, s2, s3, s4, s5, s6, s7, .val (.ref o0), .val .null] [(.int (own_eqI own_L bs))])) _
    refine XS.ifNo Xr2.here hx rfl (hb hby at_642) rfl ((if0 _ _).trans (feq (by rw [own_eq1 hL]; decide)).1) ?_
    show Steps p.tables e below (Tr2.setTop (mkF m 645 #[s0, s1, s2, s3, s4, s5, s6, s7, .val (.ref o0), .val .null] [])) _
    refine str3 _ ?_
    show Steps p.tables e below (Tr3.setTop (mkF m 648 #[s0, s1, s2, s3, s4, s5, s6, s7, .val (.ref o0), .val .null] [(.ref wL)])) _
    refine XS.astore Xr3.here hx rfl (hb hby at_648) rfl rfl (l' := #[s0, s1, s2, s3, s4, s5, s6, s7, .val (.ref o0), .val (.ref wL)]) rfl ?_
    show Steps p.tables e below (Tr3.setTop (mkF m 650 #[s0, s1, s2, s3, s4, s5, s6, s7, .val (.ref o0), .val (.ref wL)] [])) _
    refine XS.goto Xr3.here hx rfl (pc0 := 650) (pc' := 668) rfl (hb hby at_650) (by decide) (by decide) ?_
    show Steps p.tables e below (Tr3.setTop (mkF m 668 #[s0, s1, s2, s3, s4, s5, s6, s7, .val (.ref o0), .val (.ref wL)] [])) _
    refine XS.aload Xr3.here hx rfl (hb hby at_668) rfl rfl ?_
    show Steps p.tables e below (Tr3.setTop (mkF m 670 #[s0, s1, s2, s3, s4, s5, s6, s7, .val (.ref o0), .val (.ref wL)] [(.ref o0)])) _
    refine str4 _ ?_
    rw [own_app1 wL wI hL]
    show Steps p.tables e below (Tr4.setTop (mkF m 673 #[s0, s1, s2, s3, s4, s5, s6, s7, .val (.ref o0), .val (.ref wL)] [(.ref wL)])) _
    refine XS.aload Xr4.here hx rfl (hb hby at_673) rfl rfl ?_
    show Steps p.tables e below (Tr4.setTop (mkF m 675 #[s0, s1, s2, s3, s4, s5, s6, s7, .val (.ref o0), .val (.ref wL)] [(.ref wL), (.ref wL)])) _
    refine Jvm.RoadKit.acmp (g := (mkF m 675 #[s0, s1, s2, s3, s4, s5, s6, s7, .val (.ref o0), .val (.ref wL)] [(.ref wL), (.ref wL)])) Xr4 hx rfl rfl rfl (pc0 := 675) (pc' := 678) (same := true) rfl (hb hby at_675) rfl (decide_eq_true rfl) (by decide) (by decide) ?_
    show Steps p.tables e below (Tr4.setTop (mkF m 678 #[s0, s1, s2, s3, s4, s5, s6, s7, .val (.ref o0), .val (.ref wL)] [])) _
    refine XS.iconst Xr4.here hx rfl (hb hby at_678) ?_
    show Steps p.tables e below (Tr4.setTop (mkF m 679 #[s0, s1, s2, s3, s4, s5, s6, s7, .val (.ref o0), .val (.ref wL)] [(.int (1 : Int32))])) _
    refine XS.goto Xr4.here hx rfl (pc0 := 679) (pc' := 683) rfl (hb hby at_679) (by decide) (by decide) ?_
    show Steps p.tables e below (Tr4.setTop (mkF m 683 #[s0, s1, s2, s3, s4, s5, s6, s7, .val (.ref o0), .val (.ref wL)] [(.int (1 : Int32))])) _
    exact retN Xr4 hx (t := .boolean) hret (by simp) (hb hby at_683) hr
  · by_cases hI : own_I = bs
    · have S_C' := S_C
      have S_L' := S_L
      have S_I' := S_I
      have W_L' := W_L
      have W_I' := W_I
      obtain ⟨ar1, Tr1, hr1, kr1, br1, kcr1, Xr1, er1, Exr1, hSr1, hkr1, hZr1, hownr1, ELr1, CLr1, VLr1, KLr1, lar1, lbr1, CHr1, LTr1, SFr1, str1⟩ := ldcCH (s := s) (vm0 := vm0) X0 hx hZ hown (hw _ (List.mem_of_getElem? (i := 1) rfl)) wStr e0 hS hk hEW (List.mem_of_getElem? (i := 0) rfl) hH (vs := own_L.map Value.int) (z := Int32.ofNat own_L.length) ⟨by decide, by first | rfl | decide⟩ (by decide) (by decide) (g := (mkF m 635 #[s0, s1, s2, s3, s4, s5, s6, s7, .val (.ref o0), .val .null] [])) rfl (hb hby at_635) (n := 32) (by decide) (by decide) (by decide) (by decide)
      have Zr1 : n0 ≤ hr1.size := Nat.le_trans Z0 Exr1.1
      obtain ⟨cqr2, kqr2, qar2, qbr2, qcr2⟩ := isOf hZr1 er1 ELr1
      obtain ⟨_, _, ⟨Tr2, Lr2, kr2, nr2⟩, -, Xr2, ⟨Lcr2, hQr2, lr2, yr2, zr2⟩, str2⟩ := Xr1.virtualBack hx (y := (⟨"java/lang/String", "equals", "(Ljava/lang/Object;)Z"⟩ : MethodName)) (z := (⟨"java/lang/String", "equals", "(Ljava/lang/Object;)Z"⟩ : MethodName)) hownr1 (mvT hZr1 (hw _ (List.mem_of_getElem? (i := 9) rfl))) (mvT hZr1 (hw _ (List.mem_of_getElem? (i := 10) rfl))) (notFace_of_selects (args := #[]) (mvT hZr1 (hw _ (List.mem_of_getElem? (i := 12) rfl)))) (mvT hZr1 (hw _ (List.mem_of_getElem? (i := 12) rfl))) (mvT hZr1 (hw _ (List.mem_of_getElem? (i := 11) rfl))) (by decide) (backOf (W := 0) (rm_eqs l Z a0 hw [] ar1 o0 br1 bN kcr1 kN own_L bs iC hr1 n0 Zr1 own_L4 hlen ELr1 CLr1 VLr1 KLr1 (E_N.ext Exr1) (C_N.ext Exr1) (V_N.ext Exr1) (K_N.ext Exr1) (S_C'.ext Exr1) hC) hZr1 (hw _ (List.mem_of_getElem? (i := 13) rfl)) (hw _ (List.mem_of_getElem? (i := 2) rfl)) (by decide) (by decide)) qar2 qcr2 (g := (mkF m 639 #[s0, s1, s2, s3, s4, s5, s6, s7, .val (.ref o0), .val .null] [(.ref o0), (.ref ar1)])) rfl (by rw [hml]; rfl) (Steps.refl _) (argsL := [(.ref o0)]) (rest := []) (lenOf pd_law_0 rfl) rfl (by show 2 * 0 + _ ≤ _; exact Nat.le_of_eq rfl) (hb hby at_639) (fun _ _ => ⟨rfl, er1, (by decide : 10 + 0 ≤ _), (by decide : 236 + 0 ≤ _)⟩)
      dsimp only [Pt.U, Pt.locs, Pt.cells, Pt.slots] at Xr2 lr2 yr2 zr2 str2 hQr2
      subst lr2 yr2 zr2
      obtain ⟨rfl, Nr2q, er2⟩ := hQr2
      have Nr2 := Fr.app N0 Nr2q
      obtain ⟨Lpr2, Xr2, Nr2⟩ := own_pack Xr2 Nr2
      obtain ⟨ar3, Tr3, hr3, kr3, br3, kcr3, Xr3, er3, Exr3, hSr3, hkr3, hZr3, hownr3, ELr3, CLr3, VLr3, KLr3, lar3, lbr3, CHr3, LTr3, SFr3, str3⟩ := ldcCH (s := s) (vm0 := Tr1.vm) Xr2 hx hZr1 hownr1 (hw _ (List.mem_of_getElem? (i := 34) rfl)) wStr er2 hSr1 hkr1 hEW (List.mem_of_getElem? (i := 1) rfl) CHr1.1 (vs := own_I.map Value.int) (z := Int32.ofNat own_I.length) ⟨by decide, by first | rfl | decide⟩ (by decide) (by decide) (g := (mkF m 653 #[s0, s1, s2, s3, s4, s5, s6, s7, .val (.ref o0), .val .null] [])) rfl (hb hby at_653) (n := 48) (by decide) (by decide) (by decide) (by decide)
      have Zr3 : n0 ≤ hr3.size := Nat.le_trans Zr1 Exr3.1
      obtain ⟨cqr4, kqr4, qar4, qbr4, qcr4⟩ := isOf hZr3 er3 ELr3
      obtain ⟨_, _, ⟨Tr4, Lr4, kr4, nr4⟩, -, Xr4, ⟨Lcr4, hQr4, lr4, yr4, zr4⟩, str4⟩ := Xr3.virtualBack hx (y := (⟨"java/lang/String", "equals", "(Ljava/lang/Object;)Z"⟩ : MethodName)) (z := (⟨"java/lang/String", "equals", "(Ljava/lang/Object;)Z"⟩ : MethodName)) hownr3 (mvT hZr3 (hw _ (List.mem_of_getElem? (i := 9) rfl))) (mvT hZr3 (hw _ (List.mem_of_getElem? (i := 10) rfl))) (notFace_of_selects (args := #[]) (mvT hZr3 (hw _ (List.mem_of_getElem? (i := 12) rfl)))) (mvT hZr3 (hw _ (List.mem_of_getElem? (i := 12) rfl))) (mvT hZr3 (hw _ (List.mem_of_getElem? (i := 11) rfl))) (by decide) (backOf (W := 0) (rm_eqs l Z a0 hw [] ar3 o0 br3 bN kcr3 kN own_I bs iC hr3 n0 Zr3 own_I4 hlen ELr3 CLr3 VLr3 KLr3 ((E_N.ext Exr1).ext Exr3) ((C_N.ext Exr1).ext Exr3) ((V_N.ext Exr1).ext Exr3) ((K_N.ext Exr1).ext Exr3) ((S_C'.ext Exr1).ext Exr3) hC) hZr3 (hw _ (List.mem_of_getElem? (i := 13) rfl)) (hw _ (List.mem_of_getElem? (i := 2) rfl)) (by decide) (by decide)) qar4 qcr4 (g := (mkF m 657 #[s0, s1, s2, s3, s4, s5, s6, s7, .val (.ref o0), .val .null] [(.ref o0), (.ref ar3)])) rfl (by rw [hml]; rfl) (Steps.refl _) (argsL := [(.ref o0)]) (rest := []) (lenOf pd_law_0 rfl) rfl (by show 2 * 0 + _ ≤ _; exact Nat.le_of_eq rfl) (hb hby at_657) (fun _ _ => ⟨rfl, er3, (by decide : 12 + 0 ≤ _), (by decide : 288 + 0 ≤ _)⟩)
      dsimp only [Pt.U, Pt.locs, Pt.cells, Pt.slots] at Xr4 lr4 yr4 zr4 str4 hQr4
      subst lr4 yr4 zr4
      obtain ⟨rfl, Nr4q, er4⟩ := hQr4
      have Nr4 := Fr.app Nr2 Nr4q
      obtain ⟨Lpr4, Xr4, Nr4⟩ := own_pack Xr4 Nr4
      obtain ⟨Tr5, Xr5, er5, str5⟩ := getS2 Xr4 hx hZr3 hownr3 (host := "") (Or.inl (hw _ (List.mem_of_getElem? (i := 58) rfl))) Via.refl er4 ((S_I'.ext Exr1).ext Exr3) (g := (mkF m 663 #[s0, s1, s2, s3, s4, s5, s6, s7, .val (.ref o0), .val .null] [])) rfl (hb hby at_663)
      obtain ⟨_, _, ⟨Tr6, Lr6, kr6, nr6⟩, -, Xr6, ⟨Lcr6, hQr6, lr6, yr6, zr6⟩, str6⟩ := Jvm.LawKit.callS Xr5 hx (y := (⟨"com/example/vestry/vestry/census/PaymentForm", "appliedFor", "(Ljava/lang/String;)Lcom/example/vestry/vestry/census/PaymentForm;"⟩ : MethodName)) hownr3 (mvT hZr3 (hw _ (List.mem_of_getElem? (i := 17) rfl))) (mvT hZr3 (hw _ (List.mem_of_getElem? (i := 18) rfl))) (mvT hZr3 (hw _ (List.mem_of_getElem? (i := 15) rfl))) (mvT hZr3 (hw _ (List.mem_of_getElem? (i := 19) rfl))) (by decide) (backOf (W := 0) (rm_app l Z a0 hw [] o0 bN kN bs wL wI iC hr3 n0 Zr3 ((S_L'.ext Exr1).ext Exr3) ((S_I'.ext Exr1).ext Exr3) ((W_L'.ext Exr1).ext Exr3) ((W_I'.ext Exr1).ext Exr3) ((S_C'.ext Exr1).ext Exr3) hC hlen ((E_N.ext Exr1).ext Exr3) ((C_N.ext Exr1).ext Exr3) ((V_N.ext Exr1).ext Exr3) ((K_N.ext Exr1).ext Exr3)) hZr3 (hw _ (List.mem_of_getElem? (i := 19) rfl)) (hw _ (List.mem_of_getElem? (i := 15) rfl)) (by decide) (by decide)) (g := (mkF m 670 #[s0, s1, s2, s3, s4, s5, s6, s7, .val (.ref o0), .val (.ref wI)] [(.ref o0)])) rfl (by rw [hml]; rfl) (argsL := [(.ref o0)]) (rest := []) (lenOf pd_law_1 rfl) rfl (by show 2 * 0 + _ ≤ _; exact Nat.le_of_eq rfl) (hb hby at_670) (fun _ _ => ⟨rfl, er5, (by decide : 12 + 0 ≤ _), (by decide : 288 + 0 ≤ _)⟩)
      dsimp only [Pt.U, Pt.locs, Pt.cells, Pt.slots] at Xr6 lr6 yr6 zr6 str6 hQr6
      subst lr6 yr6 zr6
      obtain ⟨rfl, Nr6q, er6⟩ := hQr6
      have Nr6 := Fr.app Nr4 Nr6q
      obtain ⟨Lpr6, Xr6, Nr6⟩ := own_pack Xr6 Nr6
      obtain ⟨fs, hr, hrun, hended, hEnd⟩ := Xr6.leaveW hSr3 (by rw [er6]; exact hkr3) (v := some (.int (1 : Int32))) (fun h => by rw [hret] at h; cases h) hlocks
      refine ⟨_, ?_, hrun, hended, _, Nr6, hEnd.1, hEnd.2.1, hEnd.2.2.1, hEnd.2.2.2.mono (by decide) (by decide)⟩
      show Steps p.tables e below (T0.setTop (mkF m 632 #[s0, s1, s2, s3, s4, s5, s6, s7, .val (.ref o0), x9] [])) _
      refine XS.aconstNull X0.here hx rfl (hb hby at_632) ?_
      show Steps p.tables e below (T0.setTop (mkF m 633 #[s0, s1, s2, s3, s4, s5, s6, s7, .val (.ref o0), x9] [.null])) _
      refine XS.astore X0.here hx rfl (hb hby at_633) rfl rfl (l' := #[s0, s1, s2, s3, s4, s5, s6, s7, .val (.ref o0), .val .null]) (own_os hx9) ?_
      show Steps p.tables e below (T0.setTop (mkF m 635 #[s0, s1, s2, s3, s4, s5, s6, s7, .val (.ref o0), .val .null] [])) _
      refine str1 _ ?_
      show Steps p.tables e below (Tr1.setTop (mkF m 637 #[s0, s1, s2, s3, s4, s5, s6, s7, .val (.ref o0), .val .null] [(.ref ar1)])) _
      refine XS.aload Xr1.here hx rfl (hb hby at_637) rfl rfl ?_
      show Steps p.tables e below (Tr1.setTop (mkF m 639 #[s0, s1, s2, s3, s4, s5, s6, s7, .val (.ref o0), .val .null] [(.ref o0), (.ref ar1)])) _
      refine str2.trans ?_
      show Steps p.tables e below (Tr2.setTop (mkF m 642 #[s0, s1, s2, s3, s4, s5, s6, s7, .val (.ref o0), .val .null] [(.int (own_eqI own_L bs))])) _
      refine XS.ifYes Xr2.here hx rfl (pc0 := 642) (pc' := 653) rfl (hb hby at_642) rfl ((if0 _ _).trans (teq (by rw [own_eq0 hL])).1) (by decide) (by decide) ?_
      show Steps p.tables e below (Tr2.setTop (mkF m 653 #[s0, s1, s2, s3, s4, s5, s6, s7, .val (.ref o0), .val .null] [])) _
      refine str3 _ ?_
      show Steps p.tables e below (Tr3.setTop (mkF m 655 #[s0, s1, s2, s3, s4, s5, s6, s7, .val (.ref o0), .val .null] [(.ref ar3)])) _
      refine XS.aload Xr3.here hx rfl (hb hby at_655) rfl rfl ?_
      show Steps p.tables e below (Tr3.setTop (mkF m 657 #[s0, s1, s2, s3, s4, s5, s6, s7, .val (.ref o0), .val .null] [(.ref o0), (.ref ar3)])) _
      refine str4.trans ?_
      show Steps p.tables e below (Tr4.setTop (mkF m 660 #[s0, s1, s2, s3, s4, s5, s6, s7, .val (.ref o0), .val .null] [(.int (own_eqI own_I bs))])) _
      refine XS.ifNo Xr4.here hx rfl (hb hby at_660) rfl ((if0 _ _).trans (feq (by rw [own_eq1 hI]; decide)).1) ?_
      show Steps p.tables e below (Tr4.setTop (mkF m 663 #[s0, s1, s2, s3, s4, s5, s6, s7, .val (.ref o0), .val .null] [])) _
      refine str5 _ ?_
      show Steps p.tables e below (Tr5.setTop (mkF m 666 #[s0, s1, s2, s3, s4, s5, s6, s7, .val (.ref o0), .val .null] [(.ref wI)])) _
      refine XS.astore Xr5.here hx rfl (hb hby at_666) rfl rfl (l' := #[s0, s1, s2, s3, s4, s5, s6, s7, .val (.ref o0), .val (.ref wI)]) rfl ?_
      show Steps p.tables e below (Tr5.setTop (mkF m 668 #[s0, s1, s2, s3, s4, s5, s6, s7, .val (.ref o0), .val (.ref wI)] [])) _
      refine XS.aload Xr5.here hx rfl (hb hby at_668) rfl rfl ?_
      show Steps p.tables e below (Tr5.setTop (mkF m 670 #[s0, s1, s2, s3, s4, s5, s6, s7, .val (.ref o0), .val (.ref wI)] [(.ref o0)])) _
      refine str6 _ ?_
      rw [own_app2 wL wI hL hI]
      show Steps p.tables e below (Tr6.setTop (mkF m 673 #[s0, s1, s2, s3, s4, s5, s6, s7, .val (.ref o0), .val (.ref wI)] [(.ref wI)])) _
      refine XS.aload Xr6.here hx rfl (hb hby at_673) rfl rfl ?_
      show Steps p.tables e below (Tr6.setTop (mkF m 675 #[s0, s1, s2, s3, s4, s5, s6, s7, .val (.ref o0), .val (.ref wI)] [(.ref wI), (.ref wI)])) _
      refine Jvm.RoadKit.acmp (g := (mkF m 675 #[s0, s1, s2, s3, s4, s5, s6, s7, .val (.ref o0), .val (.ref wI)] [(.ref wI), (.ref wI)])) Xr6 hx rfl rfl rfl (pc0 := 675) (pc' := 678) (same := true) rfl (hb hby at_675) rfl (decide_eq_true rfl) (by decide) (by decide) ?_
      show Steps p.tables e below (Tr6.setTop (mkF m 678 #[s0, s1, s2, s3, s4, s5, s6, s7, .val (.ref o0), .val (.ref wI)] [])) _
      refine XS.iconst Xr6.here hx rfl (hb hby at_678) ?_
      show Steps p.tables e below (Tr6.setTop (mkF m 679 #[s0, s1, s2, s3, s4, s5, s6, s7, .val (.ref o0), .val (.ref wI)] [(.int (1 : Int32))])) _
      refine XS.goto Xr6.here hx rfl (pc0 := 679) (pc' := 683) rfl (hb hby at_679) (by decide) (by decide) ?_
      show Steps p.tables e below (Tr6.setTop (mkF m 683 #[s0, s1, s2, s3, s4, s5, s6, s7, .val (.ref o0), .val (.ref wI)] [(.int (1 : Int32))])) _
      exact retN Xr6 hx (t := .boolean) hret (by simp) (hb hby at_683) hr
    · have S_C' := S_C
      have S_L' := S_L
      have S_I' := S_I
      have W_L' := W_L
      have W_I' := W_I
      obtain ⟨ar1, Tr1, hr1, kr1, br1, kcr1, Xr1, er1, Exr1, hSr1, hkr1, hZr1, hownr1, ELr1, CLr1, VLr1, KLr1, lar1, lbr1, CHr1, LTr1, SFr1, str1⟩ := ldcCH (s := s) (vm0 := vm0) X0 hx hZ hown (hw _ (List.mem_of_getElem? (i := 1) rfl)) wStr e0 hS hk hEW (List.mem_of_getElem? (i := 0) rfl) hH (vs := own_L.map Value.int) (z := Int32.ofNat own_L.length) ⟨by decide, by first | rfl | decide⟩ (by decide) (by decide) (g := (mkF m 635 #[s0, s1, s2, s3, s4, s5, s6, s7, .val (.ref o0), .val .null] [])) rfl (hb hby at_635) (n := 32) (by decide) (by decide) (by decide) (by decide)
      have Zr1 : n0 ≤ hr1.size := Nat.le_trans Z0 Exr1.1
      obtain ⟨cqr2, kqr2, qar2, qbr2, qcr2⟩ := isOf hZr1 er1 ELr1
      obtain ⟨_, _, ⟨Tr2, Lr2, kr2, nr2⟩, -, Xr2, ⟨Lcr2, hQr2, lr2, yr2, zr2⟩, str2⟩ := Xr1.virtualBack hx (y := (⟨"java/lang/String", "equals", "(Ljava/lang/Object;)Z"⟩ : MethodName)) (z := (⟨"java/lang/String", "equals", "(Ljava/lang/Object;)Z"⟩ : MethodName)) hownr1 (mvT hZr1 (hw _ (List.mem_of_getElem? (i := 9) rfl))) (mvT hZr1 (hw _ (List.mem_of_getElem? (i := 10) rfl))) (notFace_of_selects (args := #[]) (mvT hZr1 (hw _ (List.mem_of_getElem? (i := 12) rfl)))) (mvT hZr1 (hw _ (List.mem_of_getElem? (i := 12) rfl))) (mvT hZr1 (hw _ (List.mem_of_getElem? (i := 11) rfl))) (by decide) (backOf (W := 0) (rm_eqs l Z a0 hw [] ar1 o0 br1 bN kcr1 kN own_L bs iC hr1 n0 Zr1 own_L4 hlen ELr1 CLr1 VLr1 KLr1 (E_N.ext Exr1) (C_N.ext Exr1) (V_N.ext Exr1) (K_N.ext Exr1) (S_C'.ext Exr1) hC) hZr1 (hw _ (List.mem_of_getElem? (i := 13) rfl)) (hw _ (List.mem_of_getElem? (i := 2) rfl)) (by decide) (by decide)) qar2 qcr2 (g := (mkF m 639 #[s0, s1, s2, s3, s4, s5, s6, s7, .val (.ref o0), .val .null] [(.ref o0), (.ref ar1)])) rfl (by rw [hml]; rfl) (Steps.refl _) (argsL := [(.ref o0)]) (rest := []) (lenOf pd_law_0 rfl) rfl (by show 2 * 0 + _ ≤ _; exact Nat.le_of_eq rfl) (hb hby at_639) (fun _ _ => ⟨rfl, er1, (by decide : 10 + 0 ≤ _), (by decide : 236 + 0 ≤ _)⟩)
      dsimp only [Pt.U, Pt.locs, Pt.cells, Pt.slots] at Xr2 lr2 yr2 zr2 str2 hQr2
      subst lr2 yr2 zr2
      obtain ⟨rfl, Nr2q, er2⟩ := hQr2
      have Nr2 := Fr.app N0 Nr2q
      obtain ⟨Lpr2, Xr2, Nr2⟩ := own_pack Xr2 Nr2
      obtain ⟨ar3, Tr3, hr3, kr3, br3, kcr3, Xr3, er3, Exr3, hSr3, hkr3, hZr3, hownr3, ELr3, CLr3, VLr3, KLr3, lar3, lbr3, CHr3, LTr3, SFr3, str3⟩ := ldcCH (s := s) (vm0 := Tr1.vm) Xr2 hx hZr1 hownr1 (hw _ (List.mem_of_getElem? (i := 34) rfl)) wStr er2 hSr1 hkr1 hEW (List.mem_of_getElem? (i := 1) rfl) CHr1.1 (vs := own_I.map Value.int) (z := Int32.ofNat own_I.length) ⟨by decide, by first | rfl | decide⟩ (by decide) (by decide) (g := (mkF m 653 #[s0, s1, s2, s3, s4, s5, s6, s7, .val (.ref o0), .val .null] [])) rfl (hb hby at_653) (n := 48) (by decide) (by decide) (by decide) (by decide)
      have Zr3 : n0 ≤ hr3.size := Nat.le_trans Zr1 Exr3.1
      obtain ⟨cqr4, kqr4, qar4, qbr4, qcr4⟩ := isOf hZr3 er3 ELr3
      obtain ⟨_, _, ⟨Tr4, Lr4, kr4, nr4⟩, -, Xr4, ⟨Lcr4, hQr4, lr4, yr4, zr4⟩, str4⟩ := Xr3.virtualBack hx (y := (⟨"java/lang/String", "equals", "(Ljava/lang/Object;)Z"⟩ : MethodName)) (z := (⟨"java/lang/String", "equals", "(Ljava/lang/Object;)Z"⟩ : MethodName)) hownr3 (mvT hZr3 (hw _ (List.mem_of_getElem? (i := 9) rfl))) (mvT hZr3 (hw _ (List.mem_of_getElem? (i := 10) rfl))) (notFace_of_selects (args := #[]) (mvT hZr3 (hw _ (List.mem_of_getElem? (i := 12) rfl)))) (mvT hZr3 (hw _ (List.mem_of_getElem? (i := 12) rfl))) (mvT hZr3 (hw _ (List.mem_of_getElem? (i := 11) rfl))) (by decide) (backOf (W := 0) (rm_eqs l Z a0 hw [] ar3 o0 br3 bN kcr3 kN own_I bs iC hr3 n0 Zr3 own_I4 hlen ELr3 CLr3 VLr3 KLr3 ((E_N.ext Exr1).ext Exr3) ((C_N.ext Exr1).ext Exr3) ((V_N.ext Exr1).ext Exr3) ((K_N.ext Exr1).ext Exr3) ((S_C'.ext Exr1).ext Exr3) hC) hZr3 (hw _ (List.mem_of_getElem? (i := 13) rfl)) (hw _ (List.mem_of_getElem? (i := 2) rfl)) (by decide) (by decide)) qar4 qcr4 (g := (mkF m 657 #[s0, s1, s2, s3, s4, s5, s6, s7, .val (.ref o0), .val .null] [(.ref o0), (.ref ar3)])) rfl (by rw [hml]; rfl) (Steps.refl _) (argsL := [(.ref o0)]) (rest := []) (lenOf pd_law_0 rfl) rfl (by show 2 * 0 + _ ≤ _; exact Nat.le_of_eq rfl) (hb hby at_657) (fun _ _ => ⟨rfl, er3, (by decide : 12 + 0 ≤ _), (by decide : 288 + 0 ≤ _)⟩)
      dsimp only [Pt.U, Pt.locs, Pt.cells, Pt.slots] at Xr4 lr4 yr4 zr4 str4 hQr4
      subst lr4 yr4 zr4
      obtain ⟨rfl, Nr4q, er4⟩ := hQr4
      have Nr4 := Fr.app Nr2 Nr4q
      obtain ⟨Lpr4, Xr4, Nr4⟩ := own_pack Xr4 Nr4
      obtain ⟨_, _, ⟨Tr5, Lr5, kr5, nr5⟩, -, Xr5, ⟨Lcr5, hQr5, lr5, yr5, zr5⟩, str5⟩ := Jvm.LawKit.callS Xr4 hx (y := (⟨"com/example/vestry/vestry/census/PaymentForm", "appliedFor", "(Ljava/lang/String;)Lcom/example/vestry/vestry/census/PaymentForm;"⟩ : MethodName)) hownr3 (mvT hZr3 (hw _ (List.mem_of_getElem? (i := 17) rfl))) (mvT hZr3 (hw _ (List.mem_of_getElem? (i := 18) rfl))) (mvT hZr3 (hw _ (List.mem_of_getElem? (i := 15) rfl))) (mvT hZr3 (hw _ (List.mem_of_getElem? (i := 19) rfl))) (by decide) (backOf (W := 0) (rm_app l Z a0 hw [] o0 bN kN bs wL wI iC hr3 n0 Zr3 ((S_L'.ext Exr1).ext Exr3) ((S_I'.ext Exr1).ext Exr3) ((W_L'.ext Exr1).ext Exr3) ((W_I'.ext Exr1).ext Exr3) ((S_C'.ext Exr1).ext Exr3) hC hlen ((E_N.ext Exr1).ext Exr3) ((C_N.ext Exr1).ext Exr3) ((V_N.ext Exr1).ext Exr3) ((K_N.ext Exr1).ext Exr3)) hZr3 (hw _ (List.mem_of_getElem? (i := 19) rfl)) (hw _ (List.mem_of_getElem? (i := 15) rfl)) (by decide) (by decide)) (g := (mkF m 670 #[s0, s1, s2, s3, s4, s5, s6, s7, .val (.ref o0), .val .null] [(.ref o0)])) rfl (by rw [hml]; rfl) (argsL := [(.ref o0)]) (rest := []) (lenOf pd_law_1 rfl) rfl (by show 2 * 0 + _ ≤ _; exact Nat.le_of_eq rfl) (hb hby at_670) (fun _ _ => ⟨rfl, er4, (by decide : 12 + 0 ≤ _), (by decide : 288 + 0 ≤ _)⟩)
      dsimp only [Pt.U, Pt.locs, Pt.cells, Pt.slots] at Xr5 lr5 yr5 zr5 str5 hQr5
      subst lr5 yr5 zr5
      obtain ⟨rfl, Nr5q, er5⟩ := hQr5
      have Nr5 := Fr.app Nr4 Nr5q
      obtain ⟨Lpr5, Xr5, Nr5⟩ := own_pack Xr5 Nr5
      obtain ⟨fs, hr, hrun, hended, hEnd⟩ := Xr5.leaveW hSr3 (by rw [er5]; exact hkr3) (v := some (.int (1 : Int32))) (fun h => by rw [hret] at h; cases h) hlocks
      refine ⟨_, ?_, hrun, hended, _, Nr5, hEnd.1, hEnd.2.1, hEnd.2.2.1, hEnd.2.2.2.mono (by decide) (by decide)⟩
      show Steps p.tables e below (T0.setTop (mkF m 632 #[s0, s1, s2, s3, s4, s5, s6, s7, .val (.ref o0), x9] [])) _
      refine XS.aconstNull X0.here hx rfl (hb hby at_632) ?_
      show Steps p.tables e below (T0.setTop (mkF m 633 #[s0, s1, s2, s3, s4, s5, s6, s7, .val (.ref o0), x9] [.null])) _
      refine XS.astore X0.here hx rfl (hb hby at_633) rfl rfl (l' := #[s0, s1, s2, s3, s4, s5, s6, s7, .val (.ref o0), .val .null]) (own_os hx9) ?_
      show Steps p.tables e below (T0.setTop (mkF m 635 #[s0, s1, s2, s3, s4, s5, s6, s7, .val (.ref o0), .val .null] [])) _
      refine str1 _ ?_
      show Steps p.tables e below (Tr1.setTop (mkF m 637 #[s0, s1, s2, s3, s4, s5, s6, s7, .val (.ref o0), .val .null] [(.ref ar1)])) _
      refine XS.aload Xr1.here hx rfl (hb hby at_637) rfl rfl ?_
      show Steps p.tables e below (Tr1.setTop (mkF m 639 #[s0, s1, s2, s3, s4, s5, s6, s7, .val (.ref o0), .val .null] [(.ref o0), (.ref ar1)])) _
      refine str2.trans ?_
      show Steps p.tables e below (Tr2.setTop (mkF m 642 #[s0, s1, s2, s3, s4, s5, s6, s7, .val (.ref o0), .val .null] [(.int (own_eqI own_L bs))])) _
      refine XS.ifYes Xr2.here hx rfl (pc0 := 642) (pc' := 653) rfl (hb hby at_642) rfl ((if0 _ _).trans (teq (by rw [own_eq0 hL])).1) (by decide) (by decide) ?_
      show Steps p.tables e below (Tr2.setTop (mkF m 653 #[s0, s1, s2, s3, s4, s5, s6, s7, .val (.ref o0), .val .null] [])) _
      refine str3 _ ?_
      show Steps p.tables e below (Tr3.setTop (mkF m 655 #[s0, s1, s2, s3, s4, s5, s6, s7, .val (.ref o0), .val .null] [(.ref ar3)])) _
      refine XS.aload Xr3.here hx rfl (hb hby at_655) rfl rfl ?_
      show Steps p.tables e below (Tr3.setTop (mkF m 657 #[s0, s1, s2, s3, s4, s5, s6, s7, .val (.ref o0), .val .null] [(.ref o0), (.ref ar3)])) _
      refine str4.trans ?_
      show Steps p.tables e below (Tr4.setTop (mkF m 660 #[s0, s1, s2, s3, s4, s5, s6, s7, .val (.ref o0), .val .null] [(.int (own_eqI own_I bs))])) _
      refine XS.ifYes Xr4.here hx rfl (pc0 := 660) (pc' := 668) rfl (hb hby at_660) rfl ((if0 _ _).trans (teq (by rw [own_eq0 hI])).1) (by decide) (by decide) ?_
      show Steps p.tables e below (Tr4.setTop (mkF m 668 #[s0, s1, s2, s3, s4, s5, s6, s7, .val (.ref o0), .val .null] [])) _
      refine XS.aload Xr4.here hx rfl (hb hby at_668) rfl rfl ?_
      show Steps p.tables e below (Tr4.setTop (mkF m 670 #[s0, s1, s2, s3, s4, s5, s6, s7, .val (.ref o0), .val .null] [(.ref o0)])) _
      refine str5 _ ?_
      rw [own_app3 wL wI hL hI]
      show Steps p.tables e below (Tr5.setTop (mkF m 673 #[s0, s1, s2, s3, s4, s5, s6, s7, .val (.ref o0), .val .null] [.null])) _
      refine XS.aload Xr5.here hx rfl (hb hby at_673) rfl rfl ?_
      show Steps p.tables e below (Tr5.setTop (mkF m 675 #[s0, s1, s2, s3, s4, s5, s6, s7, .val (.ref o0), .val .null] [.null, .null])) _
      refine Jvm.RoadKit.acmp (g := (mkF m 675 #[s0, s1, s2, s3, s4, s5, s6, s7, .val (.ref o0), .val .null] [.null, .null])) Xr5 hx rfl rfl rfl (pc0 := 675) (pc' := 678) (same := true) rfl (hb hby at_675) rfl (decide_eq_true rfl) (by decide) (by decide) ?_
      show Steps p.tables e below (Tr5.setTop (mkF m 678 #[s0, s1, s2, s3, s4, s5, s6, s7, .val (.ref o0), .val .null] [])) _
      refine XS.iconst Xr5.here hx rfl (hb hby at_678) ?_
      show Steps p.tables e below (Tr5.setTop (mkF m 679 #[s0, s1, s2, s3, s4, s5, s6, s7, .val (.ref o0), .val .null] [(.int (1 : Int32))])) _
      refine XS.goto Xr5.here hx rfl (pc0 := 679) (pc' := 683) rfl (hb hby at_679) (by decide) (by decide) ?_
      show Steps p.tables e below (Tr5.setTop (mkF m 683 #[s0, s1, s2, s3, s4, s5, s6, s7, .val (.ref o0), .val .null] [(.int (1 : Int32))])) _
      exact retN Xr5 hx (t := .boolean) hret (by simp) (hb hby at_683) hr
def f_first (x : Int32) : Int32 := if x = 0 then 1 else 0
theorem own_k8 (x : Int32) : ¬ ((x &&& (2147483647 : Int32)) % (8 : Int32) < (0 : Int32)) ∧ (x &&& (2147483647 : Int32)) % (8 : Int32) < (8 : Int32) := by
  have e1 : (x &&& (2147483647 : Int32)).toInt = x.toInt % 2 ^ 31 := Jvm.Kit.i32_mask x 2147483647 (k := 31) (by decide) (by decide)
  have e2 : ((x &&& (2147483647 : Int32)) % (8 : Int32)).toInt = (x &&& (2147483647 : Int32)).toInt % (8 : Int32).toInt := Jvm.Kit.i32_rem_nonneg (by omega)
  have e3 : (8 : Int32).toInt = 8 := rfl
  have e4 : (0 : Int32).toInt = 0 := rfl
  rw [Int32.lt_iff_toInt_lt, Int32.lt_iff_toInt_lt, e2, e3, e4]
  omega
theorem own_kl8 (x : Int32) : ((x &&& (2147483647 : Int32)) % (8 : Int32)).toNatClampNeg < 8 := by
  have h := own_k8 x
  have e3 : (8 : Int32).toInt = 8 := rfl
  have e4 : (0 : Int32).toInt = 0 := rfl
  rw [Int32.lt_iff_toInt_lt, Int32.lt_iff_toInt_lt, e3, e4] at h
  rw [Int32.toNatClampNeg]
  omega
theorem own_k12 (x : Int32) : ¬ ((x &&& (2147483647 : Int32)) % (12 : Int32) < (0 : Int32)) ∧ (x &&& (2147483647 : Int32)) % (12 : Int32) < (12 : Int32) := by
  have e1 : (x &&& (2147483647 : Int32)).toInt = x.toInt % 2 ^ 31 := Jvm.Kit.i32_mask x 2147483647 (k := 31) (by decide) (by decide)
  have e2 : ((x &&& (2147483647 : Int32)) % (12 : Int32)).toInt = (x &&& (2147483647 : Int32)).toInt % (12 : Int32).toInt := Jvm.Kit.i32_rem_nonneg (by omega)
  have e3 : (12 : Int32).toInt = 12 := rfl
  have e4 : (0 : Int32).toInt = 0 := rfl
  rw [Int32.lt_iff_toInt_lt, Int32.lt_iff_toInt_lt, e2, e3, e4]
  omega
theorem own_kl12 (x : Int32) : ((x &&& (2147483647 : Int32)) % (12 : Int32)).toNatClampNeg < 12 := by
  have h := own_k12 x
  have e3 : (12 : Int32).toInt = 12 := rfl
  have e4 : (0 : Int32).toInt = 0 := rfl
  rw [Int32.lt_iff_toInt_lt, Int32.lt_iff_toInt_lt, e3, e4] at h
  rw [Int32.toNatClampNeg]
  omega
theorem and255_chars (x : Int32) : ¬ nar .char ((x &&& (255 : Int32)).toUInt32.toUInt16.toUInt32.toInt32) < 0 ∧ ¬ (255 : Int32) < nar .char ((x &&& (255 : Int32)).toUInt32.toUInt16.toUInt32.toInt32) := by
  have t : ∀ k : Fin 256, ¬ nar .char ((Int32.ofNat k.val).toUInt32.toUInt16.toUInt32.toInt32) < 0 ∧ ¬ (255 : Int32) < nar .char ((Int32.ofNat k.val).toUInt32.toUInt16.toUInt32.toInt32) := by decide +kernel
  have h : (x &&& 255).toBitVec.toNat < 256 := by
    simp only [Int32.toBitVec_and, BitVec.toNat_and]
    exact Nat.lt_succ_of_le Nat.and_le_right
  have e : (x &&& 255) = Int32.ofNat (x &&& 255).toBitVec.toNat := by
    apply Int32.toBitVec_inj.mp
    show _ = BitVec.ofNat 32 _
    rw [BitVec.ofNat_toNat]; simp
  rw [e]; exact t ⟨_, h⟩
theorem ef_law (m : MethodId) (p0 : Int32) (p1 : Int32) (p2 : Int32) (p3 : Int32) : entryFrame m #[(.int p0), (.int p1), (.int p2), (.int p3)] maxLocals = mkF m 0 #[.val (.int p0), .val (.int p1), .val (.int p2), .val (.int p3), .unset, .unset, .unset, .unset, .unset, .unset] [] := by first | (simp [entryFrame, mkF, argsToLocals, Value.category, maxLocals]; done) | rfl
def Q_law (Z : State) (p0 : Int32) (p1 : Int32) (p2 : Int32) (p3 : Int32) (h0 : Heap) (n0 : Nat) (v : Option Value) (h : Heap) (L : List Loc) : Prop := v = some (.int (1 : Int32)) ∧ Fr n0 L
set_option maxRecDepth 65536 in
set_option maxHeartbeats 40000000 in
theorem rm_law (l : Launch) (Z : State) (a0 : Array Value) (hw : ∀ d ∈ tables_1, d.before a0 Z = true) (ws : List Jvm.Cond) (p0 : Int32) (p1 : Int32) (p2 : Int32) (p3 : Int32) (wL wI : Addr) (iC : Int32) (h0 : Heap) (n0 : Nat) (Z0 : n0 ≤ h0.size) (S_L : Sta Z h0 "com/example/vestry/vestry/census/PaymentForm" "LUMP_SUM" "Lcom/example/vestry/vestry/census/PaymentForm;" (.ref wL)) (S_I : Sta Z h0 "com/example/vestry/vestry/census/PaymentForm" "INSTALLMENTS" "Lcom/example/vestry/vestry/census/PaymentForm;" (.ref wI)) (W_L : own_W Z h0 wL own_L) (W_I : own_W Z h0 wI own_I) (S_C : Sta Z h0 "java/lang/String" "COMPACT_STRINGS" "Z" (.int iC)) (hC : ¬ (iC = (0 : Int32))) (hcw : Jvm.Lit.compactW.before a0 Z = true) (hLit : ∀ q ∈ consts_1, Jvm.Lit.constHeld Z q.1 q.2) (hn0 : n0 = h0.size) :
    MetFree l x (head1 (Jvm.Cond.code x code maxLocals ret :: ws) room_1) (fun a U => a = #[(.int p0), (.int p1), (.int p2), (.int p3)] ∧ Z.Warmed39 U.vm ∧ U.heap = h0 ∧ U = Z) (fun _ _ _ _ _ => True) (fun _ U o U' => ∃ v L, o = .returned v ∧ Q_law Z p0 p1 p2 p3 h0 n0 v U'.heap L ∧ ReturnedEndW U o U' L room_1.cells room_1.slots) := by
  refine MetFree.of_bodySF (plainFor_of_name pn_law) hisR ?_
  intro p e s m args below meth c s₁ Bd hml0 hP hK
  obtain ⟨rfl, hZ, hh, hU⟩ := hP
  have hx := Bd.exec
  have hby := Bd.bytes
  have hml : c.maxLocals = 10 := hml0
  have hown : s.vm.findClass "com/example/vestry/vestry/census/PaymentFormAppliedForPinLaw" = some m.cls := findClass_of_methodNamed Bd.named
  have hnm := (name_of_methodNamed Bd.named Bd.method).1
  have X0 : Stand p l e room_1 s m #[(.int p0), (.int p1), (.int p2), (.int p3)] below meth c s₁ [] 0 0 := Stand.of_body Bd
  have e0 : s₁.heap = h0 := by rw [← hh, Bd.state]; rfl
  have N0 := Fr.nil n0
  have pre0 : ∀ tg, Steps p.tables e below (s₁.setTop (mkF m 0 #[.val (.int p0), .val (.int p1), .val (.int p2), .val (.int p3), .unset, .unset, .unset, .unset, .unset, .unset] [])) tg → Steps p.tables e below (s₁.setTop (entryFrame m #[(.int p0), (.int p1), (.int p2), (.int p3)] maxLocals)) tg := fun tg kg => castTop (ef_law m p0 p1 p2 p3) kg
  have wStr : ∀ d ∈ Bundle.stringAtoms, d.before a0 Z = true := fun d hd => hw d ((by decide +kernel : ∀ d ∈ Bundle.stringAtoms, d ∈ tables_1) d hd)
  have hS0 : s.Since s.vm h0.size := (State.WarmedH.refl s).since _
  have hEW : EW Z a0 consts_1 := EW.cons (hw _ (List.mem_of_getElem? (i := 1) rfl)) (by decide) (EW.cons (hw _ (List.mem_of_getElem? (i := 34) rfl)) (by decide) (EW.cons (hw _ (List.mem_of_getElem? (i := 33) rfl)) (by decide) (EW.cons (hw _ (List.mem_of_getElem? (i := 59) rfl)) (by decide) (EW.nil))))
  have hH0 : CHv Z consts_1 s.vm h0 := by rw [← hh, hU]; exact CHv.start hEW hLit hcw (hw _ (List.mem_of_getElem? (i := 4) rfl)) (hw _ (List.mem_of_getElem? (i := 3) rfl))
  have hZh : Z.heap = h0 := by rw [← hU, hh]
  have hws : ∀ d ∈ StrChars.Road.words, d.before a0 Z = true := fun d hd => hw d ((by decide +kernel : ∀ d ∈ StrChars.Road.words, d ∈ tables_1) d hd)
  by_cases hcase0 : ((p0 &&& (2147483647 : Int32)) % (10 : Int32)) = (0 : Int32)
  · obtain ⟨ar1, Tr1, hr1, kr1, br1, kcr1, Xr1, er1, Exr1, hSr1, hkr1, hZr1, hownr1, ELr1, CLr1, VLr1, KLr1, lar1, lbr1, CHr1, LTr1, SFr1, str1⟩ := ldcCH (s := s) (vm0 := s.vm) X0 hx hZ hown (hw _ (List.mem_of_getElem? (i := 1) rfl)) wStr e0 hS0 (Nat.le_refl _) hEW (List.mem_of_getElem? (i := 0) rfl) hH0 (vs := own_L.map Value.int) (z := Int32.ofNat own_L.length) ⟨by decide, by first | rfl | decide⟩ (by decide) (by decide) (g := (mkF m 43 #[.val (.int p0), .val (.int p1), .val (.int p2), .val (.int p3), .val (.int ((p2 &&& (255 : Int32)).toUInt32.toUInt16.toUInt32.toInt32)), .val (.int ((p3 &&& (255 : Int32)).toUInt32.toUInt16.toUInt32.toInt32)), .val (.int (f_first (p1 &&& (1 : Int32)))), .val (.int ((p0 &&& (2147483647 : Int32)) % (10 : Int32))), .unset, .unset] [])) rfl (hb hby at_43) (n := 32) (by decide) (by decide) (by decide) (by decide)
    have Zr1 : n0 ≤ hr1.size := Nat.le_trans Z0 Exr1.1
    have S_C' := S_C.ext Exr1
    have S_L' := S_L.ext Exr1
    have S_I' := S_I.ext Exr1
    have W_L' := W_L.ext Exr1
    have W_I' := W_I.ext Exr1
    obtain ⟨t, hst, hrun, hended, L, NL, hEnd⟩ := own_end (s := s) (vm0 := Tr1.vm) (.val (.int p0)) (.val (.int p1)) (.val (.int p2)) (.val (.int p3)) (.val (.int ((p2 &&& (255 : Int32)).toUInt32.toUInt16.toUInt32.toInt32))) (.val (.int ((p3 &&& (255 : Int32)).toUInt32.toUInt16.toUInt32.toInt32))) (.val (.int (f_first (p1 &&& (1 : Int32))))) (.val (.int ((p0 &&& (2147483647 : Int32)) % (10 : Int32)))) (.unset) One.u ar1 br1 kcr1 own_L wL wI iC (Xr1.more (by decide) (by decide)) hx Bd.returns Bd.notSynchronized hZr1 hw hby hml hownr1 er1 hSr1 hkr1 N0 Zr1 wStr hEW CHr1.1 S_L' S_I' W_L' W_I' S_C' hC (by decide) ELr1 CLr1 VLr1 KLr1
    refine ⟨t, _, pre0 _ ?_, hrun, hended, _, L, rfl, ⟨rfl, NL⟩, hEnd⟩
    show Steps p.tables e below (s₁.setTop (mkF m 0 #[.val (.int p0), .val (.int p1), .val (.int p2), .val (.int p3), .unset, .unset, .unset, .unset, .unset, .unset] [])) _
    refine XS.iloadN X0.here hx rfl (hb hby at_0) rfl ?_
    show Steps p.tables e below (s₁.setTop (mkF m 1 #[.val (.int p0), .val (.int p1), .val (.int p2), .val (.int p3), .unset, .unset, .unset, .unset, .unset, .unset] [(.int p2)])) _
    refine XS.sipush X0.here hx rfl (hb hby at_1) ?_
    show Steps p.tables e below (s₁.setTop (mkF m 4 #[.val (.int p0), .val (.int p1), .val (.int p2), .val (.int p3), .unset, .unset, .unset, .unset, .unset, .unset] [(.int (255 : Int32)), (.int p2)])) _
    refine XS.iand X0.here hx rfl (hb hby at_4) rfl ?_
    show Steps p.tables e below (s₁.setTop (mkF m 5 #[.val (.int p0), .val (.int p1), .val (.int p2), .val (.int p3), .unset, .unset, .unset, .unset, .unset, .unset] [(.int (p2 &&& (255 : Int32)))])) _
    refine XS.i2c X0.here hx rfl (hb hby at_5) rfl ?_
    show Steps p.tables e below (s₁.setTop (mkF m 6 #[.val (.int p0), .val (.int p1), .val (.int p2), .val (.int p3), .unset, .unset, .unset, .unset, .unset, .unset] [(.int ((p2 &&& (255 : Int32)).toUInt32.toUInt16.toUInt32.toInt32))])) _
    refine XS.istore X0.here hx rfl (hb hby at_6) rfl (l' := #[.val (.int p0), .val (.int p1), .val (.int p2), .val (.int p3), .val (.int ((p2 &&& (255 : Int32)).toUInt32.toUInt16.toUInt32.toInt32)), .unset, .unset, .unset, .unset, .unset]) rfl ?_
    show Steps p.tables e below (s₁.setTop (mkF m 8 #[.val (.int p0), .val (.int p1), .val (.int p2), .val (.int p3), .val (.int ((p2 &&& (255 : Int32)).toUInt32.toUInt16.toUInt32.toInt32)), .unset, .unset, .unset, .unset, .unset] [])) _
    refine XS.iloadN X0.here hx rfl (hb hby at_8) rfl ?_
    show Steps p.tables e below (s₁.setTop (mkF m 9 #[.val (.int p0), .val (.int p1), .val (.int p2), .val (.int p3), .val (.int ((p2 &&& (255 : Int32)).toUInt32.toUInt16.toUInt32.toInt32)), .unset, .unset, .unset, .unset, .unset] [(.int p3)])) _
    refine XS.sipush X0.here hx rfl (hb hby at_9) ?_
    show Steps p.tables e below (s₁.setTop (mkF m 12 #[.val (.int p0), .val (.int p1), .val (.int p2), .val (.int p3), .val (.int ((p2 &&& (255 : Int32)).toUInt32.toUInt16.toUInt32.toInt32)), .unset, .unset, .unset, .unset, .unset] [(.int (255 : Int32)), (.int p3)])) _
    refine XS.iand X0.here hx rfl (hb hby at_12) rfl ?_
    show Steps p.tables e below (s₁.setTop (mkF m 13 #[.val (.int p0), .val (.int p1), .val (.int p2), .val (.int p3), .val (.int ((p2 &&& (255 : Int32)).toUInt32.toUInt16.toUInt32.toInt32)), .unset, .unset, .unset, .unset, .unset] [(.int (p3 &&& (255 : Int32)))])) _
    refine XS.i2c X0.here hx rfl (hb hby at_13) rfl ?_
    show Steps p.tables e below (s₁.setTop (mkF m 14 #[.val (.int p0), .val (.int p1), .val (.int p2), .val (.int p3), .val (.int ((p2 &&& (255 : Int32)).toUInt32.toUInt16.toUInt32.toInt32)), .unset, .unset, .unset, .unset, .unset] [(.int ((p3 &&& (255 : Int32)).toUInt32.toUInt16.toUInt32.toInt32))])) _
    refine XS.istore X0.here hx rfl (hb hby at_14) rfl (l' := #[.val (.int p0), .val (.int p1), .val (.int p2), .val (.int p3), .val (.int ((p2 &&& (255 : Int32)).toUInt32.toUInt16.toUInt32.toInt32)), .val (.int ((p3 &&& (255 : Int32)).toUInt32.toUInt16.toUInt32.toInt32)), .unset, .unset, .unset, .unset]) rfl ?_
    show Steps p.tables e below (s₁.setTop (mkF m 16 #[.val (.int p0), .val (.int p1), .val (.int p2), .val (.int p3), .val (.int ((p2 &&& (255 : Int32)).toUInt32.toUInt16.toUInt32.toInt32)), .val (.int ((p3 &&& (255 : Int32)).toUInt32.toUInt16.toUInt32.toInt32)), .unset, .unset, .unset, .unset] [])) _
    refine XS.iloadN X0.here hx rfl (hb hby at_16) rfl ?_
    show Steps p.tables e below (s₁.setTop (mkF m 17 #[.val (.int p0), .val (.int p1), .val (.int p2), .val (.int p3), .val (.int ((p2 &&& (255 : Int32)).toUInt32.toUInt16.toUInt32.toInt32)), .val (.int ((p3 &&& (255 : Int32)).toUInt32.toUInt16.toUInt32.toInt32)), .unset, .unset, .unset, .unset] [(.int p1)])) _
    refine XS.iconst X0.here hx rfl (hb hby at_17) ?_
    show Steps p.tables e below (s₁.setTop (mkF m 18 #[.val (.int p0), .val (.int p1), .val (.int p2), .val (.int p3), .val (.int ((p2 &&& (255 : Int32)).toUInt32.toUInt16.toUInt32.toInt32)), .val (.int ((p3 &&& (255 : Int32)).toUInt32.toUInt16.toUInt32.toInt32)), .unset, .unset, .unset, .unset] [(.int (1 : Int32)), (.int p1)])) _
    refine XS.iand X0.here hx rfl (hb hby at_18) rfl ?_
    have key : Steps p.tables e below (s₁.setTop (mkF m 27 #[.val (.int p0), .val (.int p1), .val (.int p2), .val (.int p3), .val (.int ((p2 &&& (255 : Int32)).toUInt32.toUInt16.toUInt32.toInt32)), .val (.int ((p3 &&& (255 : Int32)).toUInt32.toUInt16.toUInt32.toInt32)), .unset, .unset, .unset, .unset] [(.int (f_first (p1 &&& (1 : Int32))))])) t := by
      show Steps p.tables e below (s₁.setTop (mkF m 27 #[.val (.int p0), .val (.int p1), .val (.int p2), .val (.int p3), .val (.int ((p2 &&& (255 : Int32)).toUInt32.toUInt16.toUInt32.toInt32)), .val (.int ((p3 &&& (255 : Int32)).toUInt32.toUInt16.toUInt32.toInt32)), .unset, .unset, .unset, .unset] [(.int (f_first (p1 &&& (1 : Int32))))])) _
      refine XS.istore X0.here hx rfl (hb hby at_27) rfl (l' := #[.val (.int p0), .val (.int p1), .val (.int p2), .val (.int p3), .val (.int ((p2 &&& (255 : Int32)).toUInt32.toUInt16.toUInt32.toInt32)), .val (.int ((p3 &&& (255 : Int32)).toUInt32.toUInt16.toUInt32.toInt32)), .val (.int (f_first (p1 &&& (1 : Int32)))), .unset, .unset, .unset]) rfl ?_
      show Steps p.tables e below (s₁.setTop (mkF m 29 #[.val (.int p0), .val (.int p1), .val (.int p2), .val (.int p3), .val (.int ((p2 &&& (255 : Int32)).toUInt32.toUInt16.toUInt32.toInt32)), .val (.int ((p3 &&& (255 : Int32)).toUInt32.toUInt16.toUInt32.toInt32)), .val (.int (f_first (p1 &&& (1 : Int32)))), .unset, .unset, .unset] [])) _
      refine XS.iloadN X0.here hx rfl (hb hby at_29) rfl ?_
      show Steps p.tables e below (s₁.setTop (mkF m 30 #[.val (.int p0), .val (.int p1), .val (.int p2), .val (.int p3), .val (.int ((p2 &&& (255 : Int32)).toUInt32.toUInt16.toUInt32.toInt32)), .val (.int ((p3 &&& (255 : Int32)).toUInt32.toUInt16.toUInt32.toInt32)), .val (.int (f_first (p1 &&& (1 : Int32)))), .unset, .unset, .unset] [(.int p0)])) _
      refine X0.ldcInt hx hown (mvT hZ (hw _ (List.mem_of_getElem? (i := 0) rfl))) (g := (mkF m 30 #[.val (.int p0), .val (.int p1), .val (.int p2), .val (.int p3), .val (.int ((p2 &&& (255 : Int32)).toUInt32.toUInt16.toUInt32.toInt32)), .val (.int ((p3 &&& (255 : Int32)).toUInt32.toUInt16.toUInt32.toInt32)), .val (.int (f_first (p1 &&& (1 : Int32)))), .unset, .unset, .unset] [(.int p0)])) rfl (hb hby at_30) _ ?_
      show Steps p.tables e below (s₁.setTop (mkF m 32 #[.val (.int p0), .val (.int p1), .val (.int p2), .val (.int p3), .val (.int ((p2 &&& (255 : Int32)).toUInt32.toUInt16.toUInt32.toInt32)), .val (.int ((p3 &&& (255 : Int32)).toUInt32.toUInt16.toUInt32.toInt32)), .val (.int (f_first (p1 &&& (1 : Int32)))), .unset, .unset, .unset] [(.int (2147483647 : Int32)), (.int p0)])) _
      refine XS.iand X0.here hx rfl (hb hby at_32) rfl ?_
      show Steps p.tables e below (s₁.setTop (mkF m 33 #[.val (.int p0), .val (.int p1), .val (.int p2), .val (.int p3), .val (.int ((p2 &&& (255 : Int32)).toUInt32.toUInt16.toUInt32.toInt32)), .val (.int ((p3 &&& (255 : Int32)).toUInt32.toUInt16.toUInt32.toInt32)), .val (.int (f_first (p1 &&& (1 : Int32)))), .unset, .unset, .unset] [(.int (p0 &&& (2147483647 : Int32)))])) _
      refine XS.bipush X0.here hx rfl (hb hby at_33) ?_
      show Steps p.tables e below (s₁.setTop (mkF m 35 #[.val (.int p0), .val (.int p1), .val (.int p2), .val (.int p3), .val (.int ((p2 &&& (255 : Int32)).toUInt32.toUInt16.toUInt32.toInt32)), .val (.int ((p3 &&& (255 : Int32)).toUInt32.toUInt16.toUInt32.toInt32)), .val (.int (f_first (p1 &&& (1 : Int32)))), .unset, .unset, .unset] [(.int (10 : Int32)), (.int (p0 &&& (2147483647 : Int32)))])) _
      refine Jvm.RoadKit.iremM X0 hx rfl (hb hby at_35) rfl (by decide) ?_
      show Steps p.tables e below (s₁.setTop (mkF m 36 #[.val (.int p0), .val (.int p1), .val (.int p2), .val (.int p3), .val (.int ((p2 &&& (255 : Int32)).toUInt32.toUInt16.toUInt32.toInt32)), .val (.int ((p3 &&& (255 : Int32)).toUInt32.toUInt16.toUInt32.toInt32)), .val (.int (f_first (p1 &&& (1 : Int32)))), .unset, .unset, .unset] [(.int ((p0 &&& (2147483647 : Int32)) % (10 : Int32)))])) _
      refine XS.istore X0.here hx rfl (hb hby at_36) rfl (l' := #[.val (.int p0), .val (.int p1), .val (.int p2), .val (.int p3), .val (.int ((p2 &&& (255 : Int32)).toUInt32.toUInt16.toUInt32.toInt32)), .val (.int ((p3 &&& (255 : Int32)).toUInt32.toUInt16.toUInt32.toInt32)), .val (.int (f_first (p1 &&& (1 : Int32)))), .val (.int ((p0 &&& (2147483647 : Int32)) % (10 : Int32))), .unset, .unset]) rfl ?_
      show Steps p.tables e below (s₁.setTop (mkF m 38 #[.val (.int p0), .val (.int p1), .val (.int p2), .val (.int p3), .val (.int ((p2 &&& (255 : Int32)).toUInt32.toUInt16.toUInt32.toInt32)), .val (.int ((p3 &&& (255 : Int32)).toUInt32.toUInt16.toUInt32.toInt32)), .val (.int (f_first (p1 &&& (1 : Int32)))), .val (.int ((p0 &&& (2147483647 : Int32)) % (10 : Int32))), .unset, .unset] [])) _
      refine XS.iload X0.here hx rfl (hb hby at_38) rfl ?_
      show Steps p.tables e below (s₁.setTop (mkF m 40 #[.val (.int p0), .val (.int p1), .val (.int p2), .val (.int p3), .val (.int ((p2 &&& (255 : Int32)).toUInt32.toUInt16.toUInt32.toInt32)), .val (.int ((p3 &&& (255 : Int32)).toUInt32.toUInt16.toUInt32.toInt32)), .val (.int (f_first (p1 &&& (1 : Int32)))), .val (.int ((p0 &&& (2147483647 : Int32)) % (10 : Int32))), .unset, .unset] [(.int ((p0 &&& (2147483647 : Int32)) % (10 : Int32)))])) _
      refine XS.ifNo X0.here hx rfl (hb hby at_40) rfl ((if0 _ _).trans (teq hcase0).2) ?_
      show Steps p.tables e below (s₁.setTop (mkF m 43 #[.val (.int p0), .val (.int p1), .val (.int p2), .val (.int p3), .val (.int ((p2 &&& (255 : Int32)).toUInt32.toUInt16.toUInt32.toInt32)), .val (.int ((p3 &&& (255 : Int32)).toUInt32.toUInt16.toUInt32.toInt32)), .val (.int (f_first (p1 &&& (1 : Int32)))), .val (.int ((p0 &&& (2147483647 : Int32)) % (10 : Int32))), .unset, .unset] [])) _
      refine str1 _ ?_
      show Steps p.tables e below (Tr1.setTop (mkF m 45 #[.val (.int p0), .val (.int p1), .val (.int p2), .val (.int p3), .val (.int ((p2 &&& (255 : Int32)).toUInt32.toUInt16.toUInt32.toInt32)), .val (.int ((p3 &&& (255 : Int32)).toUInt32.toUInt16.toUInt32.toInt32)), .val (.int (f_first (p1 &&& (1 : Int32)))), .val (.int ((p0 &&& (2147483647 : Int32)) % (10 : Int32))), .unset, .unset] [(.ref ar1)])) _
      refine XS.astore Xr1.here hx rfl (hb hby at_45) rfl rfl (l' := #[.val (.int p0), .val (.int p1), .val (.int p2), .val (.int p3), .val (.int ((p2 &&& (255 : Int32)).toUInt32.toUInt16.toUInt32.toInt32)), .val (.int ((p3 &&& (255 : Int32)).toUInt32.toUInt16.toUInt32.toInt32)), .val (.int (f_first (p1 &&& (1 : Int32)))), .val (.int ((p0 &&& (2147483647 : Int32)) % (10 : Int32))), .val (.ref ar1), .unset]) rfl ?_
      show Steps p.tables e below (Tr1.setTop (mkF m 47 #[.val (.int p0), .val (.int p1), .val (.int p2), .val (.int p3), .val (.int ((p2 &&& (255 : Int32)).toUInt32.toUInt16.toUInt32.toInt32)), .val (.int ((p3 &&& (255 : Int32)).toUInt32.toUInt16.toUInt32.toInt32)), .val (.int (f_first (p1 &&& (1 : Int32)))), .val (.int ((p0 &&& (2147483647 : Int32)) % (10 : Int32))), .val (.ref ar1), .unset] [])) _
      refine XS.goto Xr1.here hx rfl (pc0 := 47) (pc' := 632) rfl (hb hby at_47) (by decide) (by decide) ?_
      show Steps p.tables e below (Tr1.setTop (mkF m 632 #[.val (.int p0), .val (.int p1), .val (.int p2), .val (.int p3), .val (.int ((p2 &&& (255 : Int32)).toUInt32.toUInt16.toUInt32.toInt32)), .val (.int ((p3 &&& (255 : Int32)).toUInt32.toUInt16.toUInt32.toInt32)), .val (.int (f_first (p1 &&& (1 : Int32)))), .val (.int ((p0 &&& (2147483647 : Int32)) % (10 : Int32))), .val (.ref ar1), .unset] [])) _
      exact hst
    show Steps p.tables e below (s₁.setTop (mkF m 19 #[.val (.int p0), .val (.int p1), .val (.int p2), .val (.int p3), .val (.int ((p2 &&& (255 : Int32)).toUInt32.toUInt16.toUInt32.toInt32)), .val (.int ((p3 &&& (255 : Int32)).toUInt32.toUInt16.toUInt32.toInt32)), .unset, .unset, .unset, .unset] [(.int (p1 &&& (1 : Int32)))])) _
    by_cases hc19_0 : (p1 &&& (1 : Int32)) = (0 : Int32)
    · refine XS.ifNo X0.here hx rfl (hb hby at_19) rfl ((if0 _ _).trans (teq hc19_0).2) ?_
      show Steps p.tables e below (s₁.setTop (mkF m 22 #[.val (.int p0), .val (.int p1), .val (.int p2), .val (.int p3), .val (.int ((p2 &&& (255 : Int32)).toUInt32.toUInt16.toUInt32.toInt32)), .val (.int ((p3 &&& (255 : Int32)).toUInt32.toUInt16.toUInt32.toInt32)), .unset, .unset, .unset, .unset] [])) _
      refine XS.iconst X0.here hx rfl (hb hby at_22) ?_
      show Steps p.tables e below (s₁.setTop (mkF m 23 #[.val (.int p0), .val (.int p1), .val (.int p2), .val (.int p3), .val (.int ((p2 &&& (255 : Int32)).toUInt32.toUInt16.toUInt32.toInt32)), .val (.int ((p3 &&& (255 : Int32)).toUInt32.toUInt16.toUInt32.toInt32)), .unset, .unset, .unset, .unset] [(.int (1 : Int32))])) _
      refine XS.goto X0.here hx rfl (pc0 := 23) (pc' := 27) rfl (hb hby at_23) (by decide) (by decide) ?_
      show Steps p.tables e below (s₁.setTop (mkF m 27 #[.val (.int p0), .val (.int p1), .val (.int p2), .val (.int p3), .val (.int ((p2 &&& (255 : Int32)).toUInt32.toUInt16.toUInt32.toInt32)), .val (.int ((p3 &&& (255 : Int32)).toUInt32.toUInt16.toUInt32.toInt32)), .unset, .unset, .unset, .unset] [(.int (1 : Int32))])) _
      have hf : f_first (p1 &&& (1 : Int32)) = (1 : Int32) := by unfold f_first; rw [if_pos hc19_0]
      rw [hf] at key
      exact key
    · refine XS.ifYes X0.here hx rfl (pc0 := 19) (pc' := 26) rfl (hb hby at_19) rfl ((if0 _ _).trans (feq hc19_0).2) (by decide) (by decide) ?_
      show Steps p.tables e below (s₁.setTop (mkF m 26 #[.val (.int p0), .val (.int p1), .val (.int p2), .val (.int p3), .val (.int ((p2 &&& (255 : Int32)).toUInt32.toUInt16.toUInt32.toInt32)), .val (.int ((p3 &&& (255 : Int32)).toUInt32.toUInt16.toUInt32.toInt32)), .unset, .unset, .unset, .unset] [])) _
      refine XS.iconst X0.here hx rfl (hb hby at_26) ?_
      show Steps p.tables e below (s₁.setTop (mkF m 27 #[.val (.int p0), .val (.int p1), .val (.int p2), .val (.int p3), .val (.int ((p2 &&& (255 : Int32)).toUInt32.toUInt16.toUInt32.toInt32)), .val (.int ((p3 &&& (255 : Int32)).toUInt32.toUInt16.toUInt32.toInt32)), .unset, .unset, .unset, .unset] [(.int (0 : Int32))])) _
      have hf : f_first (p1 &&& (1 : Int32)) = (0 : Int32) := by unfold f_first; rw [if_neg hc19_0]
      rw [hf] at key
      exact key
  · by_cases hcase1 : ((p0 &&& (2147483647 : Int32)) % (10 : Int32)) = (1 : Int32)
    · obtain ⟨ar1, Tr1, hr1, kr1, br1, kcr1, Xr1, er1, Exr1, hSr1, hkr1, hZr1, hownr1, ELr1, CLr1, VLr1, KLr1, lar1, lbr1, CHr1, LTr1, SFr1, str1⟩ := ldcCH (s := s) (vm0 := s.vm) X0 hx hZ hown (hw _ (List.mem_of_getElem? (i := 34) rfl)) wStr e0 hS0 (Nat.le_refl _) hEW (List.mem_of_getElem? (i := 1) rfl) hH0 (vs := own_I.map Value.int) (z := Int32.ofNat own_I.length) ⟨by decide, by first | rfl | decide⟩ (by decide) (by decide) (g := (mkF m 56 #[.val (.int p0), .val (.int p1), .val (.int p2), .val (.int p3), .val (.int ((p2 &&& (255 : Int32)).toUInt32.toUInt16.toUInt32.toInt32)), .val (.int ((p3 &&& (255 : Int32)).toUInt32.toUInt16.toUInt32.toInt32)), .val (.int (f_first (p1 &&& (1 : Int32)))), .val (.int ((p0 &&& (2147483647 : Int32)) % (10 : Int32))), .unset, .unset] [])) rfl (hb hby at_56) (n := 48) (by decide) (by decide) (by decide) (by decide)
      have Zr1 : n0 ≤ hr1.size := Nat.le_trans Z0 Exr1.1
      have S_C' := S_C.ext Exr1
      have S_L' := S_L.ext Exr1
      have S_I' := S_I.ext Exr1
      have W_L' := W_L.ext Exr1
      have W_I' := W_I.ext Exr1
      obtain ⟨t, hst, hrun, hended, L, NL, hEnd⟩ := own_end (s := s) (vm0 := Tr1.vm) (.val (.int p0)) (.val (.int p1)) (.val (.int p2)) (.val (.int p3)) (.val (.int ((p2 &&& (255 : Int32)).toUInt32.toUInt16.toUInt32.toInt32))) (.val (.int ((p3 &&& (255 : Int32)).toUInt32.toUInt16.toUInt32.toInt32))) (.val (.int (f_first (p1 &&& (1 : Int32))))) (.val (.int ((p0 &&& (2147483647 : Int32)) % (10 : Int32)))) (.unset) One.u ar1 br1 kcr1 own_I wL wI iC (Xr1.more (by decide) (by decide)) hx Bd.returns Bd.notSynchronized hZr1 hw hby hml hownr1 er1 hSr1 hkr1 N0 Zr1 wStr hEW CHr1.1 S_L' S_I' W_L' W_I' S_C' hC (by decide) ELr1 CLr1 VLr1 KLr1
      refine ⟨t, _, pre0 _ ?_, hrun, hended, _, L, rfl, ⟨rfl, NL⟩, hEnd⟩
      show Steps p.tables e below (s₁.setTop (mkF m 0 #[.val (.int p0), .val (.int p1), .val (.int p2), .val (.int p3), .unset, .unset, .unset, .unset, .unset, .unset] [])) _
      refine XS.iloadN X0.here hx rfl (hb hby at_0) rfl ?_
      show Steps p.tables e below (s₁.setTop (mkF m 1 #[.val (.int p0), .val (.int p1), .val (.int p2), .val (.int p3), .unset, .unset, .unset, .unset, .unset, .unset] [(.int p2)])) _
      refine XS.sipush X0.here hx rfl (hb hby at_1) ?_
      show Steps p.tables e below (s₁.setTop (mkF m 4 #[.val (.int p0), .val (.int p1), .val (.int p2), .val (.int p3), .unset, .unset, .unset, .unset, .unset, .unset] [(.int (255 : Int32)), (.int p2)])) _
      refine XS.iand X0.here hx rfl (hb hby at_4) rfl ?_
      show Steps p.tables e below (s₁.setTop (mkF m 5 #[.val (.int p0), .val (.int p1), .val (.int p2), .val (.int p3), .unset, .unset, .unset, .unset, .unset, .unset] [(.int (p2 &&& (255 : Int32)))])) _
      refine XS.i2c X0.here hx rfl (hb hby at_5) rfl ?_
      show Steps p.tables e below (s₁.setTop (mkF m 6 #[.val (.int p0), .val (.int p1), .val (.int p2), .val (.int p3), .unset, .unset, .unset, .unset, .unset, .unset] [(.int ((p2 &&& (255 : Int32)).toUInt32.toUInt16.toUInt32.toInt32))])) _
      refine XS.istore X0.here hx rfl (hb hby at_6) rfl (l' := #[.val (.int p0), .val (.int p1), .val (.int p2), .val (.int p3), .val (.int ((p2 &&& (255 : Int32)).toUInt32.toUInt16.toUInt32.toInt32)), .unset, .unset, .unset, .unset, .unset]) rfl ?_
      show Steps p.tables e below (s₁.setTop (mkF m 8 #[.val (.int p0), .val (.int p1), .val (.int p2), .val (.int p3), .val (.int ((p2 &&& (255 : Int32)).toUInt32.toUInt16.toUInt32.toInt32)), .unset, .unset, .unset, .unset, .unset] [])) _
      refine XS.iloadN X0.here hx rfl (hb hby at_8) rfl ?_
      show Steps p.tables e below (s₁.setTop (mkF m 9 #[.val (.int p0), .val (.int p1), .val (.int p2), .val (.int p3), .val (.int ((p2 &&& (255 : Int32)).toUInt32.toUInt16.toUInt32.toInt32)), .unset, .unset, .unset, .unset, .unset] [(.int p3)])) _
      refine XS.sipush X0.here hx rfl (hb hby at_9) ?_
      show Steps p.tables e below (s₁.setTop (mkF m 12 #[.val (.int p0), .val (.int p1), .val (.int p2), .val (.int p3), .val (.int ((p2 &&& (255 : Int32)).toUInt32.toUInt16.toUInt32.toInt32)), .unset, .unset, .unset, .unset, .unset] [(.int (255 : Int32)), (.int p3)])) _
      refine XS.iand X0.here hx rfl (hb hby at_12) rfl ?_
      show Steps p.tables e below (s₁.setTop (mkF m 13 #[.val (.int p0), .val (.int p1), .val (.int p2), .val (.int p3), .val (.int ((p2 &&& (255 : Int32)).toUInt32.toUInt16.toUInt32.toInt32)), .unset, .unset, .unset, .unset, .unset] [(.int (p3 &&& (255 : Int32)))])) _
      refine XS.i2c X0.here hx rfl (hb hby at_13) rfl ?_
      show Steps p.tables e below (s₁.setTop (mkF m 14 #[.val (.int p0), .val (.int p1), .val (.int p2), .val (.int p3), .val (.int ((p2 &&& (255 : Int32)).toUInt32.toUInt16.toUInt32.toInt32)), .unset, .unset, .unset, .unset, .unset] [(.int ((p3 &&& (255 : Int32)).toUInt32.toUInt16.toUInt32.toInt32))])) _
      refine XS.istore X0.here hx rfl (hb hby at_14) rfl (l' := #[.val (.int p0), .val (.int p1), .val (.int p2), .val (.int p3), .val (.int ((p2 &&& (255 : Int32)).toUInt32.toUInt16.toUInt32.toInt32)), .val (.int ((p3 &&& (255 : Int32)).toUInt32.toUInt16.toUInt32.toInt32)), .unset, .unset, .unset, .unset]) rfl ?_
      show Steps p.tables e below (s₁.setTop (mkF m 16 #[.val (.int p0), .val (.int p1), .val (.int p2), .val (.int p3), .val (.int ((p2 &&& (255 : Int32)).toUInt32.toUInt16.toUInt32.toInt32)), .val (.int ((p3 &&& (255 : Int32)).toUInt32.toUInt16.toUInt32.toInt32)), .unset, .unset, .unset, .unset] [])) _
      refine XS.iloadN X0.here hx rfl (hb hby at_16) rfl ?_
      show Steps p.tables e below (s₁.setTop (mkF m 17 #[.val (.int p0), .val (.int p1), .val (.int p2), .val (.int p3), .val (.int ((p2 &&& (255 : Int32)).toUInt32.toUInt16.toUInt32.toInt32)), .val (.int ((p3 &&& (255 : Int32)).toUInt32.toUInt16.toUInt32.toInt32)), .unset, .unset, .unset, .unset] [(.int p1)])) _
      refine XS.iconst X0.here hx rfl (hb hby at_17) ?_
      show Steps p.tables e below (s₁.setTop (mkF m 18 #[.val (.int p0), .val (.int p1), .val (.int p2), .val (.int p3), .val (.int ((p2 &&& (255 : Int32)).toUInt32.toUInt16.toUInt32.toInt32)), .val (.int ((p3 &&& (255 : Int32)).toUInt32.toUInt16.toUInt32.toInt32)), .unset, .unset, .unset, .unset] [(.int (1 : Int32)), (.int p1)])) _
      refine XS.iand X0.here hx rfl (hb hby at_18) rfl ?_
      have key : Steps p.tables e below (s₁.setTop (mkF m 27 #[.val (.int p0), .val (.int p1), .val (.int p2), .val (.int p3), .val (.int ((p2 &&& (255 : Int32)).toUInt32.toUInt16.toUInt32.toInt32)), .val (.int ((p3 &&& (255 : Int32)).toUInt32.toUInt16.toUInt32.toInt32)), .unset, .unset, .unset, .unset] [(.int (f_first (p1 &&& (1 : Int32))))])) t := by
        show Steps p.tables e below (s₁.setTop (mkF m 27 #[.val (.int p0), .val (.int p1), .val (.int p2), .val (.int p3), .val (.int ((p2 &&& (255 : Int32)).toUInt32.toUInt16.toUInt32.toInt32)), .val (.int ((p3 &&& (255 : Int32)).toUInt32.toUInt16.toUInt32.toInt32)), .unset, .unset, .unset, .unset] [(.int (f_first (p1 &&& (1 : Int32))))])) _
        refine XS.istore X0.here hx rfl (hb hby at_27) rfl (l' := #[.val (.int p0), .val (.int p1), .val (.int p2), .val (.int p3), .val (.int ((p2 &&& (255 : Int32)).toUInt32.toUInt16.toUInt32.toInt32)), .val (.int ((p3 &&& (255 : Int32)).toUInt32.toUInt16.toUInt32.toInt32)), .val (.int (f_first (p1 &&& (1 : Int32)))), .unset, .unset, .unset]) rfl ?_
        show Steps p.tables e below (s₁.setTop (mkF m 29 #[.val (.int p0), .val (.int p1), .val (.int p2), .val (.int p3), .val (.int ((p2 &&& (255 : Int32)).toUInt32.toUInt16.toUInt32.toInt32)), .val (.int ((p3 &&& (255 : Int32)).toUInt32.toUInt16.toUInt32.toInt32)), .val (.int (f_first (p1 &&& (1 : Int32)))), .unset, .unset, .unset] [])) _
        refine XS.iloadN X0.here hx rfl (hb hby at_29) rfl ?_
        show Steps p.tables e below (s₁.setTop (mkF m 30 #[.val (.int p0), .val (.int p1), .val (.int p2), .val (.int p3), .val (.int ((p2 &&& (255 : Int32)).toUInt32.toUInt16.toUInt32.toInt32)), .val (.int ((p3 &&& (255 : Int32)).toUInt32.toUInt16.toUInt32.toInt32)), .val (.int (f_first (p1 &&& (1 : Int32)))), .unset, .unset, .unset] [(.int p0)])) _
        refine X0.ldcInt hx hown (mvT hZ (hw _ (List.mem_of_getElem? (i := 0) rfl))) (g := (mkF m 30 #[.val (.int p0), .val (.int p1), .val (.int p2), .val (.int p3), .val (.int ((p2 &&& (255 : Int32)).toUInt32.toUInt16.toUInt32.toInt32)), .val (.int ((p3 &&& (255 : Int32)).toUInt32.toUInt16.toUInt32.toInt32)), .val (.int (f_first (p1 &&& (1 : Int32)))), .unset, .unset, .unset] [(.int p0)])) rfl (hb hby at_30) _ ?_
        show Steps p.tables e below (s₁.setTop (mkF m 32 #[.val (.int p0), .val (.int p1), .val (.int p2), .val (.int p3), .val (.int ((p2 &&& (255 : Int32)).toUInt32.toUInt16.toUInt32.toInt32)), .val (.int ((p3 &&& (255 : Int32)).toUInt32.toUInt16.toUInt32.toInt32)), .val (.int (f_first (p1 &&& (1 : Int32)))), .unset, .unset, .unset] [(.int (2147483647 : Int32)), (.int p0)])) _
        refine XS.iand X0.here hx rfl (hb hby at_32) rfl ?_
        show Steps p.tables e below (s₁.setTop (mkF m 33 #[.val (.int p0), .val (.int p1), .val (.int p2), .val (.int p3), .val (.int ((p2 &&& (255 : Int32)).toUInt32.toUInt16.toUInt32.toInt32)), .val (.int ((p3 &&& (255 : Int32)).toUInt32.toUInt16.toUInt32.toInt32)), .val (.int (f_first (p1 &&& (1 : Int32)))), .unset, .unset, .unset] [(.int (p0 &&& (2147483647 : Int32)))])) _
        refine XS.bipush X0.here hx rfl (hb hby at_33) ?_
        show Steps p.tables e below (s₁.setTop (mkF m 35 #[.val (.int p0), .val (.int p1), .val (.int p2), .val (.int p3), .val (.int ((p2 &&& (255 : Int32)).toUInt32.toUInt16.toUInt32.toInt32)), .val (.int ((p3 &&& (255 : Int32)).toUInt32.toUInt16.toUInt32.toInt32)), .val (.int (f_first (p1 &&& (1 : Int32)))), .unset, .unset, .unset] [(.int (10 : Int32)), (.int (p0 &&& (2147483647 : Int32)))])) _
        refine Jvm.RoadKit.iremM X0 hx rfl (hb hby at_35) rfl (by decide) ?_
        show Steps p.tables e below (s₁.setTop (mkF m 36 #[.val (.int p0), .val (.int p1), .val (.int p2), .val (.int p3), .val (.int ((p2 &&& (255 : Int32)).toUInt32.toUInt16.toUInt32.toInt32)), .val (.int ((p3 &&& (255 : Int32)).toUInt32.toUInt16.toUInt32.toInt32)), .val (.int (f_first (p1 &&& (1 : Int32)))), .unset, .unset, .unset] [(.int ((p0 &&& (2147483647 : Int32)) % (10 : Int32)))])) _
        refine XS.istore X0.here hx rfl (hb hby at_36) rfl (l' := #[.val (.int p0), .val (.int p1), .val (.int p2), .val (.int p3), .val (.int ((p2 &&& (255 : Int32)).toUInt32.toUInt16.toUInt32.toInt32)), .val (.int ((p3 &&& (255 : Int32)).toUInt32.toUInt16.toUInt32.toInt32)), .val (.int (f_first (p1 &&& (1 : Int32)))), .val (.int ((p0 &&& (2147483647 : Int32)) % (10 : Int32))), .unset, .unset]) rfl ?_
        show Steps p.tables e below (s₁.setTop (mkF m 38 #[.val (.int p0), .val (.int p1), .val (.int p2), .val (.int p3), .val (.int ((p2 &&& (255 : Int32)).toUInt32.toUInt16.toUInt32.toInt32)), .val (.int ((p3 &&& (255 : Int32)).toUInt32.toUInt16.toUInt32.toInt32)), .val (.int (f_first (p1 &&& (1 : Int32)))), .val (.int ((p0 &&& (2147483647 : Int32)) % (10 : Int32))), .unset, .unset] [])) _
        refine XS.iload X0.here hx rfl (hb hby at_38) rfl ?_
        show Steps p.tables e below (s₁.setTop (mkF m 40 #[.val (.int p0), .val (.int p1), .val (.int p2), .val (.int p3), .val (.int ((p2 &&& (255 : Int32)).toUInt32.toUInt16.toUInt32.toInt32)), .val (.int ((p3 &&& (255 : Int32)).toUInt32.toUInt16.toUInt32.toInt32)), .val (.int (f_first (p1 &&& (1 : Int32)))), .val (.int ((p0 &&& (2147483647 : Int32)) % (10 : Int32))), .unset, .unset] [(.int ((p0 &&& (2147483647 : Int32)) % (10 : Int32)))])) _
        refine XS.ifYes X0.here hx rfl (pc0 := 40) (pc' := 50) rfl (hb hby at_40) rfl ((if0 _ _).trans (feq hcase0).2) (by decide) (by decide) ?_
        show Steps p.tables e below (s₁.setTop (mkF m 50 #[.val (.int p0), .val (.int p1), .val (.int p2), .val (.int p3), .val (.int ((p2 &&& (255 : Int32)).toUInt32.toUInt16.toUInt32.toInt32)), .val (.int ((p3 &&& (255 : Int32)).toUInt32.toUInt16.toUInt32.toInt32)), .val (.int (f_first (p1 &&& (1 : Int32)))), .val (.int ((p0 &&& (2147483647 : Int32)) % (10 : Int32))), .unset, .unset] [])) _
        refine XS.iload X0.here hx rfl (hb hby at_50) rfl ?_
        show Steps p.tables e below (s₁.setTop (mkF m 52 #[.val (.int p0), .val (.int p1), .val (.int p2), .val (.int p3), .val (.int ((p2 &&& (255 : Int32)).toUInt32.toUInt16.toUInt32.toInt32)), .val (.int ((p3 &&& (255 : Int32)).toUInt32.toUInt16.toUInt32.toInt32)), .val (.int (f_first (p1 &&& (1 : Int32)))), .val (.int ((p0 &&& (2147483647 : Int32)) % (10 : Int32))), .unset, .unset] [(.int ((p0 &&& (2147483647 : Int32)) % (10 : Int32)))])) _
        refine XS.iconst X0.here hx rfl (hb hby at_52) ?_
        show Steps p.tables e below (s₁.setTop (mkF m 53 #[.val (.int p0), .val (.int p1), .val (.int p2), .val (.int p3), .val (.int ((p2 &&& (255 : Int32)).toUInt32.toUInt16.toUInt32.toInt32)), .val (.int ((p3 &&& (255 : Int32)).toUInt32.toUInt16.toUInt32.toInt32)), .val (.int (f_first (p1 &&& (1 : Int32)))), .val (.int ((p0 &&& (2147483647 : Int32)) % (10 : Int32))), .unset, .unset] [(.int (1 : Int32)), (.int ((p0 &&& (2147483647 : Int32)) % (10 : Int32)))])) _
        refine XS.icmpNo X0.here hx rfl (hb hby at_53) rfl (teq hcase1).2 ?_
        show Steps p.tables e below (s₁.setTop (mkF m 56 #[.val (.int p0), .val (.int p1), .val (.int p2), .val (.int p3), .val (.int ((p2 &&& (255 : Int32)).toUInt32.toUInt16.toUInt32.toInt32)), .val (.int ((p3 &&& (255 : Int32)).toUInt32.toUInt16.toUInt32.toInt32)), .val (.int (f_first (p1 &&& (1 : Int32)))), .val (.int ((p0 &&& (2147483647 : Int32)) % (10 : Int32))), .unset, .unset] [])) _
        refine str1 _ ?_
        show Steps p.tables e below (Tr1.setTop (mkF m 58 #[.val (.int p0), .val (.int p1), .val (.int p2), .val (.int p3), .val (.int ((p2 &&& (255 : Int32)).toUInt32.toUInt16.toUInt32.toInt32)), .val (.int ((p3 &&& (255 : Int32)).toUInt32.toUInt16.toUInt32.toInt32)), .val (.int (f_first (p1 &&& (1 : Int32)))), .val (.int ((p0 &&& (2147483647 : Int32)) % (10 : Int32))), .unset, .unset] [(.ref ar1)])) _
        refine XS.astore Xr1.here hx rfl (hb hby at_58) rfl rfl (l' := #[.val (.int p0), .val (.int p1), .val (.int p2), .val (.int p3), .val (.int ((p2 &&& (255 : Int32)).toUInt32.toUInt16.toUInt32.toInt32)), .val (.int ((p3 &&& (255 : Int32)).toUInt32.toUInt16.toUInt32.toInt32)), .val (.int (f_first (p1 &&& (1 : Int32)))), .val (.int ((p0 &&& (2147483647 : Int32)) % (10 : Int32))), .val (.ref ar1), .unset]) rfl ?_
        show Steps p.tables e below (Tr1.setTop (mkF m 60 #[.val (.int p0), .val (.int p1), .val (.int p2), .val (.int p3), .val (.int ((p2 &&& (255 : Int32)).toUInt32.toUInt16.toUInt32.toInt32)), .val (.int ((p3 &&& (255 : Int32)).toUInt32.toUInt16.toUInt32.toInt32)), .val (.int (f_first (p1 &&& (1 : Int32)))), .val (.int ((p0 &&& (2147483647 : Int32)) % (10 : Int32))), .val (.ref ar1), .unset] [])) _
        refine XS.goto Xr1.here hx rfl (pc0 := 60) (pc' := 632) rfl (hb hby at_60) (by decide) (by decide) ?_
        show Steps p.tables e below (Tr1.setTop (mkF m 632 #[.val (.int p0), .val (.int p1), .val (.int p2), .val (.int p3), .val (.int ((p2 &&& (255 : Int32)).toUInt32.toUInt16.toUInt32.toInt32)), .val (.int ((p3 &&& (255 : Int32)).toUInt32.toUInt16.toUInt32.toInt32)), .val (.int (f_first (p1 &&& (1 : Int32)))), .val (.int ((p0 &&& (2147483647 : Int32)) % (10 : Int32))), .val (.ref ar1), .unset] [])) _
        exact hst
      show Steps p.tables e below (s₁.setTop (mkF m 19 #[.val (.int p0), .val (.int p1), .val (.int p2), .val (.int p3), .val (.int ((p2 &&& (255 : Int32)).toUInt32.toUInt16.toUInt32.toInt32)), .val (.int ((p3 &&& (255 : Int32)).toUInt32.toUInt16.toUInt32.toInt32)), .unset, .unset, .unset, .unset] [(.int (p1 &&& (1 : Int32)))])) _
      by_cases hc19_0 : (p1 &&& (1 : Int32)) = (0 : Int32)
      · refine XS.ifNo X0.here hx rfl (hb hby at_19) rfl ((if0 _ _).trans (teq hc19_0).2) ?_
        show Steps p.tables e below (s₁.setTop (mkF m 22 #[.val (.int p0), .val (.int p1), .val (.int p2), .val (.int p3), .val (.int ((p2 &&& (255 : Int32)).toUInt32.toUInt16.toUInt32.toInt32)), .val (.int ((p3 &&& (255 : Int32)).toUInt32.toUInt16.toUInt32.toInt32)), .unset, .unset, .unset, .unset] [])) _
        refine XS.iconst X0.here hx rfl (hb hby at_22) ?_
        show Steps p.tables e below (s₁.setTop (mkF m 23 #[.val (.int p0), .val (.int p1), .val (.int p2), .val (.int p3), .val (.int ((p2 &&& (255 : Int32)).toUInt32.toUInt16.toUInt32.toInt32)), .val (.int ((p3 &&& (255 : Int32)).toUInt32.toUInt16.toUInt32.toInt32)), .unset, .unset, .unset, .unset] [(.int (1 : Int32))])) _
        refine XS.goto X0.here hx rfl (pc0 := 23) (pc' := 27) rfl (hb hby at_23) (by decide) (by decide) ?_
        show Steps p.tables e below (s₁.setTop (mkF m 27 #[.val (.int p0), .val (.int p1), .val (.int p2), .val (.int p3), .val (.int ((p2 &&& (255 : Int32)).toUInt32.toUInt16.toUInt32.toInt32)), .val (.int ((p3 &&& (255 : Int32)).toUInt32.toUInt16.toUInt32.toInt32)), .unset, .unset, .unset, .unset] [(.int (1 : Int32))])) _
        have hf : f_first (p1 &&& (1 : Int32)) = (1 : Int32) := by unfold f_first; rw [if_pos hc19_0]
        rw [hf] at key
        exact key
      · refine XS.ifYes X0.here hx rfl (pc0 := 19) (pc' := 26) rfl (hb hby at_19) rfl ((if0 _ _).trans (feq hc19_0).2) (by decide) (by decide) ?_
        show Steps p.tables e below (s₁.setTop (mkF m 26 #[.val (.int p0), .val (.int p1), .val (.int p2), .val (.int p3), .val (.int ((p2 &&& (255 : Int32)).toUInt32.toUInt16.toUInt32.toInt32)), .val (.int ((p3 &&& (255 : Int32)).toUInt32.toUInt16.toUInt32.toInt32)), .unset, .unset, .unset, .unset] [])) _
        refine XS.iconst X0.here hx rfl (hb hby at_26) ?_
        show Steps p.tables e below (s₁.setTop (mkF m 27 #[.val (.int p0), .val (.int p1), .val (.int p2), .val (.int p3), .val (.int ((p2 &&& (255 : Int32)).toUInt32.toUInt16.toUInt32.toInt32)), .val (.int ((p3 &&& (255 : Int32)).toUInt32.toUInt16.toUInt32.toInt32)), .unset, .unset, .unset, .unset] [(.int (0 : Int32))])) _
        have hf : f_first (p1 &&& (1 : Int32)) = (0 : Int32) := by unfold f_first; rw [if_neg hc19_0]
        rw [hf] at key
        exact key
    · by_cases hcase2 : ((p0 &&& (2147483647 : Int32)) % (10 : Int32)) = (2 : Int32)
      · obtain ⟨ar1, Tr1, hr1, kr1, br1, kcr1, Xr1, er1, Exr1, hSr1, hkr1, hZr1, hownr1, ELr1, CLr1, VLr1, KLr1, lar1, lbr1, CHr1, LTr1, SFr1, str1⟩ := ldcCH (s := s) (vm0 := s.vm) X0 hx hZ hown (hw _ (List.mem_of_getElem? (i := 33) rfl)) wStr e0 hS0 (Nat.le_refl _) hEW (List.mem_of_getElem? (i := 2) rfl) hH0 (vs := ([(100 : Int32), (101 : Int32), (102 : Int32), (101 : Int32), (114 : Int32), (114 : Int32), (101 : Int32), (100 : Int32)] : List Int32).map Value.int) (z := Int32.ofNat ([(100 : Int32), (101 : Int32), (102 : Int32), (101 : Int32), (114 : Int32), (114 : Int32), (101 : Int32), (100 : Int32)] : List Int32).length) ⟨by decide, by first | rfl | decide⟩ (by decide) (by decide) (g := (mkF m 69 #[.val (.int p0), .val (.int p1), .val (.int p2), .val (.int p3), .val (.int ((p2 &&& (255 : Int32)).toUInt32.toUInt16.toUInt32.toInt32)), .val (.int ((p3 &&& (255 : Int32)).toUInt32.toUInt16.toUInt32.toInt32)), .val (.int (f_first (p1 &&& (1 : Int32)))), .val (.int ((p0 &&& (2147483647 : Int32)) % (10 : Int32))), .unset, .unset] [])) rfl (hb hby at_69) (n := 32) (by decide) (by decide) (by decide) (by decide)
        have Zr1 : n0 ≤ hr1.size := Nat.le_trans Z0 Exr1.1
        have S_C' := S_C.ext Exr1
        have S_L' := S_L.ext Exr1
        have S_I' := S_I.ext Exr1
        have W_L' := W_L.ext Exr1
        have W_I' := W_I.ext Exr1
        obtain ⟨t, hst, hrun, hended, L, NL, hEnd⟩ := own_end (s := s) (vm0 := Tr1.vm) (.val (.int p0)) (.val (.int p1)) (.val (.int p2)) (.val (.int p3)) (.val (.int ((p2 &&& (255 : Int32)).toUInt32.toUInt16.toUInt32.toInt32))) (.val (.int ((p3 &&& (255 : Int32)).toUInt32.toUInt16.toUInt32.toInt32))) (.val (.int (f_first (p1 &&& (1 : Int32))))) (.val (.int ((p0 &&& (2147483647 : Int32)) % (10 : Int32)))) (.unset) One.u ar1 br1 kcr1 ([(100 : Int32), (101 : Int32), (102 : Int32), (101 : Int32), (114 : Int32), (114 : Int32), (101 : Int32), (100 : Int32)] : List Int32) wL wI iC (Xr1.more (by decide) (by decide)) hx Bd.returns Bd.notSynchronized hZr1 hw hby hml hownr1 er1 hSr1 hkr1 N0 Zr1 wStr hEW CHr1.1 S_L' S_I' W_L' W_I' S_C' hC (by decide) ELr1 CLr1 VLr1 KLr1
        refine ⟨t, _, pre0 _ ?_, hrun, hended, _, L, rfl, ⟨rfl, NL⟩, hEnd⟩
        show Steps p.tables e below (s₁.setTop (mkF m 0 #[.val (.int p0), .val (.int p1), .val (.int p2), .val (.int p3), .unset, .unset, .unset, .unset, .unset, .unset] [])) _
        refine XS.iloadN X0.here hx rfl (hb hby at_0) rfl ?_
        show Steps p.tables e below (s₁.setTop (mkF m 1 #[.val (.int p0), .val (.int p1), .val (.int p2), .val (.int p3), .unset, .unset, .unset, .unset, .unset, .unset] [(.int p2)])) _
        refine XS.sipush X0.here hx rfl (hb hby at_1) ?_
        show Steps p.tables e below (s₁.setTop (mkF m 4 #[.val (.int p0), .val (.int p1), .val (.int p2), .val (.int p3), .unset, .unset, .unset, .unset, .unset, .unset] [(.int (255 : Int32)), (.int p2)])) _
        refine XS.iand X0.here hx rfl (hb hby at_4) rfl ?_
        show Steps p.tables e below (s₁.setTop (mkF m 5 #[.val (.int p0), .val (.int p1), .val (.int p2), .val (.int p3), .unset, .unset, .unset, .unset, .unset, .unset] [(.int (p2 &&& (255 : Int32)))])) _
        refine XS.i2c X0.here hx rfl (hb hby at_5) rfl ?_
        show Steps p.tables e below (s₁.setTop (mkF m 6 #[.val (.int p0), .val (.int p1), .val (.int p2), .val (.int p3), .unset, .unset, .unset, .unset, .unset, .unset] [(.int ((p2 &&& (255 : Int32)).toUInt32.toUInt16.toUInt32.toInt32))])) _
        refine XS.istore X0.here hx rfl (hb hby at_6) rfl (l' := #[.val (.int p0), .val (.int p1), .val (.int p2), .val (.int p3), .val (.int ((p2 &&& (255 : Int32)).toUInt32.toUInt16.toUInt32.toInt32)), .unset, .unset, .unset, .unset, .unset]) rfl ?_
        show Steps p.tables e below (s₁.setTop (mkF m 8 #[.val (.int p0), .val (.int p1), .val (.int p2), .val (.int p3), .val (.int ((p2 &&& (255 : Int32)).toUInt32.toUInt16.toUInt32.toInt32)), .unset, .unset, .unset, .unset, .unset] [])) _
        refine XS.iloadN X0.here hx rfl (hb hby at_8) rfl ?_
        show Steps p.tables e below (s₁.setTop (mkF m 9 #[.val (.int p0), .val (.int p1), .val (.int p2), .val (.int p3), .val (.int ((p2 &&& (255 : Int32)).toUInt32.toUInt16.toUInt32.toInt32)), .unset, .unset, .unset, .unset, .unset] [(.int p3)])) _
        refine XS.sipush X0.here hx rfl (hb hby at_9) ?_
        show Steps p.tables e below (s₁.setTop (mkF m 12 #[.val (.int p0), .val (.int p1), .val (.int p2), .val (.int p3), .val (.int ((p2 &&& (255 : Int32)).toUInt32.toUInt16.toUInt32.toInt32)), .unset, .unset, .unset, .unset, .unset] [(.int (255 : Int32)), (.int p3)])) _
        refine XS.iand X0.here hx rfl (hb hby at_12) rfl ?_
        show Steps p.tables e below (s₁.setTop (mkF m 13 #[.val (.int p0), .val (.int p1), .val (.int p2), .val (.int p3), .val (.int ((p2 &&& (255 : Int32)).toUInt32.toUInt16.toUInt32.toInt32)), .unset, .unset, .unset, .unset, .unset] [(.int (p3 &&& (255 : Int32)))])) _
        refine XS.i2c X0.here hx rfl (hb hby at_13) rfl ?_
        show Steps p.tables e below (s₁.setTop (mkF m 14 #[.val (.int p0), .val (.int p1), .val (.int p2), .val (.int p3), .val (.int ((p2 &&& (255 : Int32)).toUInt32.toUInt16.toUInt32.toInt32)), .unset, .unset, .unset, .unset, .unset] [(.int ((p3 &&& (255 : Int32)).toUInt32.toUInt16.toUInt32.toInt32))])) _
        refine XS.istore X0.here hx rfl (hb hby at_14) rfl (l' := #[.val (.int p0), .val (.int p1), .val (.int p2), .val (.int p3), .val (.int ((p2 &&& (255 : Int32)).toUInt32.toUInt16.toUInt32.toInt32)), .val (.int ((p3 &&& (255 : Int32)).toUInt32.toUInt16.toUInt32.toInt32)), .unset, .unset, .unset, .unset]) rfl ?_
        show Steps p.tables e below (s₁.setTop (mkF m 16 #[.val (.int p0), .val (.int p1), .val (.int p2), .val (.int p3), .val (.int ((p2 &&& (255 : Int32)).toUInt32.toUInt16.toUInt32.toInt32)), .val (.int ((p3 &&& (255 : Int32)).toUInt32.toUInt16.toUInt32.toInt32)), .unset, .unset, .unset, .unset] [])) _
        refine XS.iloadN X0.here hx rfl (hb hby at_16) rfl ?_
        show Steps p.tables e below (s₁.setTop (mkF m 17 #[.val (.int p0), .val (.int p1), .val (.int p2), .val (.int p3), .val (.int ((p2 &&& (255 : Int32)).toUInt32.toUInt16.toUInt32.toInt32)), .val (.int ((p3 &&& (255 : Int32)).toUInt32.toUInt16.toUInt32.toInt32)), .unset, .unset, .unset, .unset] [(.int p1)])) _
        refine XS.iconst X0.here hx rfl (hb hby at_17) ?_
        show Steps p.tables e below (s₁.setTop (mkF m 18 #[.val (.int p0), .val (.int p1), .val (.int p2), .val (.int p3), .val (.int ((p2 &&& (255 : Int32)).toUInt32.toUInt16.toUInt32.toInt32)), .val (.int ((p3 &&& (255 : Int32)).toUInt32.toUInt16.toUInt32.toInt32)), .unset, .unset, .unset, .unset] [(.int (1 : Int32)), (.int p1)])) _
        refine XS.iand X0.here hx rfl (hb hby at_18) rfl ?_
        have key : Steps p.tables e below (s₁.setTop (mkF m 27 #[.val (.int p0), .val (.int p1), .val (.int p2), .val (.int p3), .val (.int ((p2 &&& (255 : Int32)).toUInt32.toUInt16.toUInt32.toInt32)), .val (.int ((p3 &&& (255 : Int32)).toUInt32.toUInt16.toUInt32.toInt32)), .unset, .unset, .unset, .unset] [(.int (f_first (p1 &&& (1 : Int32))))])) t := by
          show Steps p.tables e below (s₁.setTop (mkF m 27 #[.val (.int p0), .val (.int p1), .val (.int p2), .val (.int p3), .val (.int ((p2 &&& (255 : Int32)).toUInt32.toUInt16.toUInt32.toInt32)), .val (.int ((p3 &&& (255 : Int32)).toUInt32.toUInt16.toUInt32.toInt32)), .unset, .unset, .unset, .unset] [(.int (f_first (p1 &&& (1 : Int32))))])) _
          refine XS.istore X0.here hx rfl (hb hby at_27) rfl (l' := #[.val (.int p0), .val (.int p1), .val (.int p2), .val (.int p3), .val (.int ((p2 &&& (255 : Int32)).toUInt32.toUInt16.toUInt32.toInt32)), .val (.int ((p3 &&& (255 : Int32)).toUInt32.toUInt16.toUInt32.toInt32)), .val (.int (f_first (p1 &&& (1 : Int32)))), .unset, .unset, .unset]) rfl ?_
          show Steps p.tables e below (s₁.setTop (mkF m 29 #[.val (.int p0), .val (.int p1), .val (.int p2), .val (.int p3), .val (.int ((p2 &&& (255 : Int32)).toUInt32.toUInt16.toUInt32.toInt32)), .val (.int ((p3 &&& (255 : Int32)).toUInt32.toUInt16.toUInt32.toInt32)), .val (.int (f_first (p1 &&& (1 : Int32)))), .unset, .unset, .unset] [])) _
          refine XS.iloadN X0.here hx rfl (hb hby at_29) rfl ?_
          show Steps p.tables e below (s₁.setTop (mkF m 30 #[.val (.int p0), .val (.int p1), .val (.int p2), .val (.int p3), .val (.int ((p2 &&& (255 : Int32)).toUInt32.toUInt16.toUInt32.toInt32)), .val (.int ((p3 &&& (255 : Int32)).toUInt32.toUInt16.toUInt32.toInt32)), .val (.int (f_first (p1 &&& (1 : Int32)))), .unset, .unset, .unset] [(.int p0)])) _
          refine X0.ldcInt hx hown (mvT hZ (hw _ (List.mem_of_getElem? (i := 0) rfl))) (g := (mkF m 30 #[.val (.int p0), .val (.int p1), .val (.int p2), .val (.int p3), .val (.int ((p2 &&& (255 : Int32)).toUInt32.toUInt16.toUInt32.toInt32)), .val (.int ((p3 &&& (255 : Int32)).toUInt32.toUInt16.toUInt32.toInt32)), .val (.int (f_first (p1 &&& (1 : Int32)))), .unset, .unset, .unset] [(.int p0)])) rfl (hb hby at_30) _ ?_
          show Steps p.tables e below (s₁.setTop (mkF m 32 #[.val (.int p0), .val (.int p1), .val (.int p2), .val (.int p3), .val (.int ((p2 &&& (255 : Int32)).toUInt32.toUInt16.toUInt32.toInt32)), .val (.int ((p3 &&& (255 : Int32)).toUInt32.toUInt16.toUInt32.toInt32)), .val (.int (f_first (p1 &&& (1 : Int32)))), .unset, .unset, .unset] [(.int (2147483647 : Int32)), (.int p0)])) _
          refine XS.iand X0.here hx rfl (hb hby at_32) rfl ?_
          show Steps p.tables e below (s₁.setTop (mkF m 33 #[.val (.int p0), .val (.int p1), .val (.int p2), .val (.int p3), .val (.int ((p2 &&& (255 : Int32)).toUInt32.toUInt16.toUInt32.toInt32)), .val (.int ((p3 &&& (255 : Int32)).toUInt32.toUInt16.toUInt32.toInt32)), .val (.int (f_first (p1 &&& (1 : Int32)))), .unset, .unset, .unset] [(.int (p0 &&& (2147483647 : Int32)))])) _
          refine XS.bipush X0.here hx rfl (hb hby at_33) ?_
          show Steps p.tables e below (s₁.setTop (mkF m 35 #[.val (.int p0), .val (.int p1), .val (.int p2), .val (.int p3), .val (.int ((p2 &&& (255 : Int32)).toUInt32.toUInt16.toUInt32.toInt32)), .val (.int ((p3 &&& (255 : Int32)).toUInt32.toUInt16.toUInt32.toInt32)), .val (.int (f_first (p1 &&& (1 : Int32)))), .unset, .unset, .unset] [(.int (10 : Int32)), (.int (p0 &&& (2147483647 : Int32)))])) _
          refine Jvm.RoadKit.iremM X0 hx rfl (hb hby at_35) rfl (by decide) ?_
          show Steps p.tables e below (s₁.setTop (mkF m 36 #[.val (.int p0), .val (.int p1), .val (.int p2), .val (.int p3), .val (.int ((p2 &&& (255 : Int32)).toUInt32.toUInt16.toUInt32.toInt32)), .val (.int ((p3 &&& (255 : Int32)).toUInt32.toUInt16.toUInt32.toInt32)), .val (.int (f_first (p1 &&& (1 : Int32)))), .unset, .unset, .unset] [(.int ((p0 &&& (2147483647 : Int32)) % (10 : Int32)))])) _
          refine XS.istore X0.here hx rfl (hb hby at_36) rfl (l' := #[.val (.int p0), .val (.int p1), .val (.int p2), .val (.int p3), .val (.int ((p2 &&& (255 : Int32)).toUInt32.toUInt16.toUInt32.toInt32)), .val (.int ((p3 &&& (255 : Int32)).toUInt32.toUInt16.toUInt32.toInt32)), .val (.int (f_first (p1 &&& (1 : Int32)))), .val (.int ((p0 &&& (2147483647 : Int32)) % (10 : Int32))), .unset, .unset]) rfl ?_
          show Steps p.tables e below (s₁.setTop (mkF m 38 #[.val (.int p0), .val (.int p1), .val (.int p2), .val (.int p3), .val (.int ((p2 &&& (255 : Int32)).toUInt32.toUInt16.toUInt32.toInt32)), .val (.int ((p3 &&& (255 : Int32)).toUInt32.toUInt16.toUInt32.toInt32)), .val (.int (f_first (p1 &&& (1 : Int32)))), .val (.int ((p0 &&& (2147483647 : Int32)) % (10 : Int32))), .unset, .unset] [])) _
          refine XS.iload X0.here hx rfl (hb hby at_38) rfl ?_
          show Steps p.tables e below (s₁.setTop (mkF m 40 #[.val (.int p0), .val (.int p1), .val (.int p2), .val (.int p3), .val (.int ((p2 &&& (255 : Int32)).toUInt32.toUInt16.toUInt32.toInt32)), .val (.int ((p3 &&& (255 : Int32)).toUInt32.toUInt16.toUInt32.toInt32)), .val (.int (f_first (p1 &&& (1 : Int32)))), .val (.int ((p0 &&& (2147483647 : Int32)) % (10 : Int32))), .unset, .unset] [(.int ((p0 &&& (2147483647 : Int32)) % (10 : Int32)))])) _
          refine XS.ifYes X0.here hx rfl (pc0 := 40) (pc' := 50) rfl (hb hby at_40) rfl ((if0 _ _).trans (feq hcase0).2) (by decide) (by decide) ?_
          show Steps p.tables e below (s₁.setTop (mkF m 50 #[.val (.int p0), .val (.int p1), .val (.int p2), .val (.int p3), .val (.int ((p2 &&& (255 : Int32)).toUInt32.toUInt16.toUInt32.toInt32)), .val (.int ((p3 &&& (255 : Int32)).toUInt32.toUInt16.toUInt32.toInt32)), .val (.int (f_first (p1 &&& (1 : Int32)))), .val (.int ((p0 &&& (2147483647 : Int32)) % (10 : Int32))), .unset, .unset] [])) _
          refine XS.iload X0.here hx rfl (hb hby at_50) rfl ?_
          show Steps p.tables e below (s₁.setTop (mkF m 52 #[.val (.int p0), .val (.int p1), .val (.int p2), .val (.int p3), .val (.int ((p2 &&& (255 : Int32)).toUInt32.toUInt16.toUInt32.toInt32)), .val (.int ((p3 &&& (255 : Int32)).toUInt32.toUInt16.toUInt32.toInt32)), .val (.int (f_first (p1 &&& (1 : Int32)))), .val (.int ((p0 &&& (2147483647 : Int32)) % (10 : Int32))), .unset, .unset] [(.int ((p0 &&& (2147483647 : Int32)) % (10 : Int32)))])) _
          refine XS.iconst X0.here hx rfl (hb hby at_52) ?_
          show Steps p.tables e below (s₁.setTop (mkF m 53 #[.val (.int p0), .val (.int p1), .val (.int p2), .val (.int p3), .val (.int ((p2 &&& (255 : Int32)).toUInt32.toUInt16.toUInt32.toInt32)), .val (.int ((p3 &&& (255 : Int32)).toUInt32.toUInt16.toUInt32.toInt32)), .val (.int (f_first (p1 &&& (1 : Int32)))), .val (.int ((p0 &&& (2147483647 : Int32)) % (10 : Int32))), .unset, .unset] [(.int (1 : Int32)), (.int ((p0 &&& (2147483647 : Int32)) % (10 : Int32)))])) _
          refine XS.icmpYes X0.here hx rfl (pc0 := 53) (pc' := 63) rfl (hb hby at_53) rfl (feq hcase1).2 (by decide) (by decide) ?_
          show Steps p.tables e below (s₁.setTop (mkF m 63 #[.val (.int p0), .val (.int p1), .val (.int p2), .val (.int p3), .val (.int ((p2 &&& (255 : Int32)).toUInt32.toUInt16.toUInt32.toInt32)), .val (.int ((p3 &&& (255 : Int32)).toUInt32.toUInt16.toUInt32.toInt32)), .val (.int (f_first (p1 &&& (1 : Int32)))), .val (.int ((p0 &&& (2147483647 : Int32)) % (10 : Int32))), .unset, .unset] [])) _
          refine XS.iload X0.here hx rfl (hb hby at_63) rfl ?_
          show Steps p.tables e below (s₁.setTop (mkF m 65 #[.val (.int p0), .val (.int p1), .val (.int p2), .val (.int p3), .val (.int ((p2 &&& (255 : Int32)).toUInt32.toUInt16.toUInt32.toInt32)), .val (.int ((p3 &&& (255 : Int32)).toUInt32.toUInt16.toUInt32.toInt32)), .val (.int (f_first (p1 &&& (1 : Int32)))), .val (.int ((p0 &&& (2147483647 : Int32)) % (10 : Int32))), .unset, .unset] [(.int ((p0 &&& (2147483647 : Int32)) % (10 : Int32)))])) _
          refine XS.iconst X0.here hx rfl (hb hby at_65) ?_
          show Steps p.tables e below (s₁.setTop (mkF m 66 #[.val (.int p0), .val (.int p1), .val (.int p2), .val (.int p3), .val (.int ((p2 &&& (255 : Int32)).toUInt32.toUInt16.toUInt32.toInt32)), .val (.int ((p3 &&& (255 : Int32)).toUInt32.toUInt16.toUInt32.toInt32)), .val (.int (f_first (p1 &&& (1 : Int32)))), .val (.int ((p0 &&& (2147483647 : Int32)) % (10 : Int32))), .unset, .unset] [(.int (2 : Int32)), (.int ((p0 &&& (2147483647 : Int32)) % (10 : Int32)))])) _
          refine XS.icmpNo X0.here hx rfl (hb hby at_66) rfl (teq hcase2).2 ?_
          show Steps p.tables e below (s₁.setTop (mkF m 69 #[.val (.int p0), .val (.int p1), .val (.int p2), .val (.int p3), .val (.int ((p2 &&& (255 : Int32)).toUInt32.toUInt16.toUInt32.toInt32)), .val (.int ((p3 &&& (255 : Int32)).toUInt32.toUInt16.toUInt32.toInt32)), .val (.int (f_first (p1 &&& (1 : Int32)))), .val (.int ((p0 &&& (2147483647 : Int32)) % (10 : Int32))), .unset, .unset] [])) _
          refine str1 _ ?_
          show Steps p.tables e below (Tr1.setTop (mkF m 71 #[.val (.int p0), .val (.int p1), .val (.int p2), .val (.int p3), .val (.int ((p2 &&& (255 : Int32)).toUInt32.toUInt16.toUInt32.toInt32)), .val (.int ((p3 &&& (255 : Int32)).toUInt32.toUInt16.toUInt32.toInt32)), .val (.int (f_first (p1 &&& (1 : Int32)))), .val (.int ((p0 &&& (2147483647 : Int32)) % (10 : Int32))), .unset, .unset] [(.ref ar1)])) _
          refine XS.astore Xr1.here hx rfl (hb hby at_71) rfl rfl (l' := #[.val (.int p0), .val (.int p1), .val (.int p2), .val (.int p3), .val (.int ((p2 &&& (255 : Int32)).toUInt32.toUInt16.toUInt32.toInt32)), .val (.int ((p3 &&& (255 : Int32)).toUInt32.toUInt16.toUInt32.toInt32)), .val (.int (f_first (p1 &&& (1 : Int32)))), .val (.int ((p0 &&& (2147483647 : Int32)) % (10 : Int32))), .val (.ref ar1), .unset]) rfl ?_
          show Steps p.tables e below (Tr1.setTop (mkF m 73 #[.val (.int p0), .val (.int p1), .val (.int p2), .val (.int p3), .val (.int ((p2 &&& (255 : Int32)).toUInt32.toUInt16.toUInt32.toInt32)), .val (.int ((p3 &&& (255 : Int32)).toUInt32.toUInt16.toUInt32.toInt32)), .val (.int (f_first (p1 &&& (1 : Int32)))), .val (.int ((p0 &&& (2147483647 : Int32)) % (10 : Int32))), .val (.ref ar1), .unset] [])) _
          refine XS.goto Xr1.here hx rfl (pc0 := 73) (pc' := 632) rfl (hb hby at_73) (by decide) (by decide) ?_
          show Steps p.tables e below (Tr1.setTop (mkF m 632 #[.val (.int p0), .val (.int p1), .val (.int p2), .val (.int p3), .val (.int ((p2 &&& (255 : Int32)).toUInt32.toUInt16.toUInt32.toInt32)), .val (.int ((p3 &&& (255 : Int32)).toUInt32.toUInt16.toUInt32.toInt32)), .val (.int (f_first (p1 &&& (1 : Int32)))), .val (.int ((p0 &&& (2147483647 : Int32)) % (10 : Int32))), .val (.ref ar1), .unset] [])) _
          exact hst
        show Steps p.tables e below (s₁.setTop (mkF m 19 #[.val (.int p0), .val (.int p1), .val (.int p2), .val (.int p3), .val (.int ((p2 &&& (255 : Int32)).toUInt32.toUInt16.toUInt32.toInt32)), .val (.int ((p3 &&& (255 : Int32)).toUInt32.toUInt16.toUInt32.toInt32)), .unset, .unset, .unset, .unset] [(.int (p1 &&& (1 : Int32)))])) _
        by_cases hc19_0 : (p1 &&& (1 : Int32)) = (0 : Int32)
        · refine XS.ifNo X0.here hx rfl (hb hby at_19) rfl ((if0 _ _).trans (teq hc19_0).2) ?_
          show Steps p.tables e below (s₁.setTop (mkF m 22 #[.val (.int p0), .val (.int p1), .val (.int p2), .val (.int p3), .val (.int ((p2 &&& (255 : Int32)).toUInt32.toUInt16.toUInt32.toInt32)), .val (.int ((p3 &&& (255 : Int32)).toUInt32.toUInt16.toUInt32.toInt32)), .unset, .unset, .unset, .unset] [])) _
          refine XS.iconst X0.here hx rfl (hb hby at_22) ?_
          show Steps p.tables e below (s₁.setTop (mkF m 23 #[.val (.int p0), .val (.int p1), .val (.int p2), .val (.int p3), .val (.int ((p2 &&& (255 : Int32)).toUInt32.toUInt16.toUInt32.toInt32)), .val (.int ((p3 &&& (255 : Int32)).toUInt32.toUInt16.toUInt32.toInt32)), .unset, .unset, .unset, .unset] [(.int (1 : Int32))])) _
          refine XS.goto X0.here hx rfl (pc0 := 23) (pc' := 27) rfl (hb hby at_23) (by decide) (by decide) ?_
          show Steps p.tables e below (s₁.setTop (mkF m 27 #[.val (.int p0), .val (.int p1), .val (.int p2), .val (.int p3), .val (.int ((p2 &&& (255 : Int32)).toUInt32.toUInt16.toUInt32.toInt32)), .val (.int ((p3 &&& (255 : Int32)).toUInt32.toUInt16.toUInt32.toInt32)), .unset, .unset, .unset, .unset] [(.int (1 : Int32))])) _
          have hf : f_first (p1 &&& (1 : Int32)) = (1 : Int32) := by unfold f_first; rw [if_pos hc19_0]
          rw [hf] at key
          exact key
        · refine XS.ifYes X0.here hx rfl (pc0 := 19) (pc' := 26) rfl (hb hby at_19) rfl ((if0 _ _).trans (feq hc19_0).2) (by decide) (by decide) ?_
          show Steps p.tables e below (s₁.setTop (mkF m 26 #[.val (.int p0), .val (.int p1), .val (.int p2), .val (.int p3), .val (.int ((p2 &&& (255 : Int32)).toUInt32.toUInt16.toUInt32.toInt32)), .val (.int ((p3 &&& (255 : Int32)).toUInt32.toUInt16.toUInt32.toInt32)), .unset, .unset, .unset, .unset] [])) _
          refine XS.iconst X0.here hx rfl (hb hby at_26) ?_
          show Steps p.tables e below (s₁.setTop (mkF m 27 #[.val (.int p0), .val (.int p1), .val (.int p2), .val (.int p3), .val (.int ((p2 &&& (255 : Int32)).toUInt32.toUInt16.toUInt32.toInt32)), .val (.int ((p3 &&& (255 : Int32)).toUInt32.toUInt16.toUInt32.toInt32)), .unset, .unset, .unset, .unset] [(.int (0 : Int32))])) _
          have hf : f_first (p1 &&& (1 : Int32)) = (0 : Int32) := by unfold f_first; rw [if_neg hc19_0]
          rw [hf] at key
          exact key
      · by_cases hcase3 : ((p0 &&& (2147483647 : Int32)) % (10 : Int32)) = (3 : Int32)
        · have S_C' := S_C
          have S_L' := S_L
          have S_I' := S_I
          have W_L' := W_L
          have W_I' := W_I
          obtain ⟨ar1, Tr1, hr1, kr1, br1, kcr1, Xr1, er1, Exr1, hSr1, hkr1, hZr1, hownr1, ELr1, CLr1, VLr1, KLr1, lar1, lbr1, CHr1, LTr1, SFr1, str1⟩ := ldcCH (s := s) (vm0 := s.vm) X0 hx hZ hown (hw _ (List.mem_of_getElem? (i := 1) rfl)) wStr e0 hS0 (Nat.le_refl _) hEW (List.mem_of_getElem? (i := 0) rfl) hH0 (vs := own_L.map Value.int) (z := Int32.ofNat own_L.length) ⟨by decide, by first | rfl | decide⟩ (by decide) (by decide) (g := (mkF m 635 #[.val (.int p0), .val (.int p1), .val (.int p2), .val (.int p3), .val (.int ((p2 &&& (255 : Int32)).toUInt32.toUInt16.toUInt32.toInt32)), .val (.int ((p3 &&& (255 : Int32)).toUInt32.toUInt16.toUInt32.toInt32)), .val (.int (f_first (p1 &&& (1 : Int32)))), .val (.int ((p0 &&& (2147483647 : Int32)) % (10 : Int32))), .val .null, .val .null] [])) rfl (hb hby at_635) (n := 32) (by decide) (by decide) (by decide) (by decide)
          have Zr1 : n0 ≤ hr1.size := Nat.le_trans Z0 Exr1.1
          obtain ⟨cqr2, kqr2, qar2, qbr2, qcr2⟩ := isOf hZr1 er1 ELr1
          obtain ⟨_, _, ⟨Tr2, Lr2, kr2, nr2⟩, -, Xr2, ⟨Lcr2, hQr2, lr2, yr2, zr2⟩, str2⟩ := Xr1.virtualBack hx (y := (⟨"java/lang/String", "equals", "(Ljava/lang/Object;)Z"⟩ : MethodName)) (z := (⟨"java/lang/String", "equals", "(Ljava/lang/Object;)Z"⟩ : MethodName)) hownr1 (mvT hZr1 (hw _ (List.mem_of_getElem? (i := 9) rfl))) (mvT hZr1 (hw _ (List.mem_of_getElem? (i := 10) rfl))) (notFace_of_selects (args := #[]) (mvT hZr1 (hw _ (List.mem_of_getElem? (i := 12) rfl)))) (mvT hZr1 (hw _ (List.mem_of_getElem? (i := 12) rfl))) (mvT hZr1 (hw _ (List.mem_of_getElem? (i := 11) rfl))) (by decide) (backOf (W := 0) (rm_eqn l Z a0 hw [] ar1  hr1 n0 Zr1 ) hZr1 (hw _ (List.mem_of_getElem? (i := 13) rfl)) (hw _ (List.mem_of_getElem? (i := 2) rfl)) (by decide) (by decide)) qar2 qcr2 (g := (mkF m 639 #[.val (.int p0), .val (.int p1), .val (.int p2), .val (.int p3), .val (.int ((p2 &&& (255 : Int32)).toUInt32.toUInt16.toUInt32.toInt32)), .val (.int ((p3 &&& (255 : Int32)).toUInt32.toUInt16.toUInt32.toInt32)), .val (.int (f_first (p1 &&& (1 : Int32)))), .val (.int ((p0 &&& (2147483647 : Int32)) % (10 : Int32))), .val .null, .val .null] [.null, (.ref ar1)])) rfl (by rw [hml]; rfl) (Steps.refl _) (argsL := [.null]) (rest := []) (lenOf pd_law_0 rfl) rfl (by show 2 * 0 + _ ≤ _; exact Nat.le_of_eq rfl) (hb hby at_639) (fun _ _ => ⟨rfl, er1, (by decide : 2 + 0 ≤ _), (by decide : 36 + 0 ≤ _)⟩)
          dsimp only [Pt.U, Pt.locs, Pt.cells, Pt.slots] at Xr2 lr2 yr2 zr2 str2 hQr2
          subst lr2 yr2 zr2
          obtain ⟨rfl, Nr2q, er2⟩ := hQr2
          have Nr2 := Fr.app N0 Nr2q
          obtain ⟨Lpr2, Xr2, Nr2⟩ := own_pack Xr2 Nr2
          obtain ⟨ar3, Tr3, hr3, kr3, br3, kcr3, Xr3, er3, Exr3, hSr3, hkr3, hZr3, hownr3, ELr3, CLr3, VLr3, KLr3, lar3, lbr3, CHr3, LTr3, SFr3, str3⟩ := ldcCH (s := s) (vm0 := Tr1.vm) Xr2 hx hZr1 hownr1 (hw _ (List.mem_of_getElem? (i := 34) rfl)) wStr er2 hSr1 hkr1 hEW (List.mem_of_getElem? (i := 1) rfl) CHr1.1 (vs := own_I.map Value.int) (z := Int32.ofNat own_I.length) ⟨by decide, by first | rfl | decide⟩ (by decide) (by decide) (g := (mkF m 653 #[.val (.int p0), .val (.int p1), .val (.int p2), .val (.int p3), .val (.int ((p2 &&& (255 : Int32)).toUInt32.toUInt16.toUInt32.toInt32)), .val (.int ((p3 &&& (255 : Int32)).toUInt32.toUInt16.toUInt32.toInt32)), .val (.int (f_first (p1 &&& (1 : Int32)))), .val (.int ((p0 &&& (2147483647 : Int32)) % (10 : Int32))), .val .null, .val .null] [])) rfl (hb hby at_653) (n := 48) (by decide) (by decide) (by decide) (by decide)
          have Zr3 : n0 ≤ hr3.size := Nat.le_trans Zr1 Exr3.1
          obtain ⟨cqr4, kqr4, qar4, qbr4, qcr4⟩ := isOf hZr3 er3 ELr3
          obtain ⟨_, _, ⟨Tr4, Lr4, kr4, nr4⟩, -, Xr4, ⟨Lcr4, hQr4, lr4, yr4, zr4⟩, str4⟩ := Xr3.virtualBack hx (y := (⟨"java/lang/String", "equals", "(Ljava/lang/Object;)Z"⟩ : MethodName)) (z := (⟨"java/lang/String", "equals", "(Ljava/lang/Object;)Z"⟩ : MethodName)) hownr3 (mvT hZr3 (hw _ (List.mem_of_getElem? (i := 9) rfl))) (mvT hZr3 (hw _ (List.mem_of_getElem? (i := 10) rfl))) (notFace_of_selects (args := #[]) (mvT hZr3 (hw _ (List.mem_of_getElem? (i := 12) rfl)))) (mvT hZr3 (hw _ (List.mem_of_getElem? (i := 12) rfl))) (mvT hZr3 (hw _ (List.mem_of_getElem? (i := 11) rfl))) (by decide) (backOf (W := 0) (rm_eqn l Z a0 hw [] ar3  hr3 n0 Zr3 ) hZr3 (hw _ (List.mem_of_getElem? (i := 13) rfl)) (hw _ (List.mem_of_getElem? (i := 2) rfl)) (by decide) (by decide)) qar4 qcr4 (g := (mkF m 657 #[.val (.int p0), .val (.int p1), .val (.int p2), .val (.int p3), .val (.int ((p2 &&& (255 : Int32)).toUInt32.toUInt16.toUInt32.toInt32)), .val (.int ((p3 &&& (255 : Int32)).toUInt32.toUInt16.toUInt32.toInt32)), .val (.int (f_first (p1 &&& (1 : Int32)))), .val (.int ((p0 &&& (2147483647 : Int32)) % (10 : Int32))), .val .null, .val .null] [.null, (.ref ar3)])) rfl (by rw [hml]; rfl) (Steps.refl _) (argsL := [.null]) (rest := []) (lenOf pd_law_0 rfl) rfl (by show 2 * 0 + _ ≤ _; exact Nat.le_of_eq rfl) (hb hby at_657) (fun _ _ => ⟨rfl, er3, (by decide : 4 + 0 ≤ _), (by decide : 88 + 0 ≤ _)⟩)
          dsimp only [Pt.U, Pt.locs, Pt.cells, Pt.slots] at Xr4 lr4 yr4 zr4 str4 hQr4
          subst lr4 yr4 zr4
          obtain ⟨rfl, Nr4q, er4⟩ := hQr4
          have Nr4 := Fr.app Nr2 Nr4q
          obtain ⟨Lpr4, Xr4, Nr4⟩ := own_pack Xr4 Nr4
          obtain ⟨_, _, ⟨Tr5, Lr5, kr5, nr5⟩, -, Xr5, ⟨Lcr5, hQr5, lr5, yr5, zr5⟩, str5⟩ := Jvm.LawKit.callS Xr4 hx (y := (⟨"com/example/vestry/vestry/census/PaymentForm", "appliedFor", "(Ljava/lang/String;)Lcom/example/vestry/vestry/census/PaymentForm;"⟩ : MethodName)) hownr3 (mvT hZr3 (hw _ (List.mem_of_getElem? (i := 17) rfl))) (mvT hZr3 (hw _ (List.mem_of_getElem? (i := 18) rfl))) (mvT hZr3 (hw _ (List.mem_of_getElem? (i := 15) rfl))) (mvT hZr3 (hw _ (List.mem_of_getElem? (i := 19) rfl))) (by decide) (backOf (W := 0) (rm_appn l Z a0 hw []  wL wI hr3 n0 Zr3 ((S_L'.ext Exr1).ext Exr3) ((S_I'.ext Exr1).ext Exr3) ((W_L'.ext Exr1).ext Exr3) ((W_I'.ext Exr1).ext Exr3)) hZr3 (hw _ (List.mem_of_getElem? (i := 19) rfl)) (hw _ (List.mem_of_getElem? (i := 15) rfl)) (by decide) (by decide)) (g := (mkF m 670 #[.val (.int p0), .val (.int p1), .val (.int p2), .val (.int p3), .val (.int ((p2 &&& (255 : Int32)).toUInt32.toUInt16.toUInt32.toInt32)), .val (.int ((p3 &&& (255 : Int32)).toUInt32.toUInt16.toUInt32.toInt32)), .val (.int (f_first (p1 &&& (1 : Int32)))), .val (.int ((p0 &&& (2147483647 : Int32)) % (10 : Int32))), .val .null, .val .null] [.null])) rfl (by rw [hml]; rfl) (argsL := [.null]) (rest := []) (lenOf pd_law_1 rfl) rfl (by show 2 * 0 + _ ≤ _; exact Nat.le_of_eq rfl) (hb hby at_670) (fun _ _ => ⟨rfl, er4, (by decide : 4 + 0 ≤ _), (by decide : 88 + 0 ≤ _)⟩)
          dsimp only [Pt.U, Pt.locs, Pt.cells, Pt.slots] at Xr5 lr5 yr5 zr5 str5 hQr5
          subst lr5 yr5 zr5
          obtain ⟨rfl, Nr5q, er5⟩ := hQr5
          have Nr5 := Fr.app Nr4 Nr5q
          obtain ⟨Lpr5, Xr5, Nr5⟩ := own_pack Xr5 Nr5
          obtain ⟨fs, hr, hrun, hended, hEnd⟩ := Xr5.leaveW hSr3 (by rw [er5]; exact hkr3) (v := some (.int (1 : Int32))) (fun h => by rw [Bd.returns] at h; cases h)
          refine ⟨_, _, pre0 _ ?_, hrun, hended, _, _, rfl, ⟨rfl, Nr5⟩, hEnd.1, hEnd.2.1, hEnd.2.2.1, hEnd.2.2.2.mono (by decide) (by decide)⟩
          show Steps p.tables e below (s₁.setTop (mkF m 0 #[.val (.int p0), .val (.int p1), .val (.int p2), .val (.int p3), .unset, .unset, .unset, .unset, .unset, .unset] [])) _
          refine XS.iloadN X0.here hx rfl (hb hby at_0) rfl ?_
          show Steps p.tables e below (s₁.setTop (mkF m 1 #[.val (.int p0), .val (.int p1), .val (.int p2), .val (.int p3), .unset, .unset, .unset, .unset, .unset, .unset] [(.int p2)])) _
          refine XS.sipush X0.here hx rfl (hb hby at_1) ?_
          show Steps p.tables e below (s₁.setTop (mkF m 4 #[.val (.int p0), .val (.int p1), .val (.int p2), .val (.int p3), .unset, .unset, .unset, .unset, .unset, .unset] [(.int (255 : Int32)), (.int p2)])) _
          refine XS.iand X0.here hx rfl (hb hby at_4) rfl ?_
          show Steps p.tables e below (s₁.setTop (mkF m 5 #[.val (.int p0), .val (.int p1), .val (.int p2), .val (.int p3), .unset, .unset, .unset, .unset, .unset, .unset] [(.int (p2 &&& (255 : Int32)))])) _
          refine XS.i2c X0.here hx rfl (hb hby at_5) rfl ?_
          show Steps p.tables e below (s₁.setTop (mkF m 6 #[.val (.int p0), .val (.int p1), .val (.int p2), .val (.int p3), .unset, .unset, .unset, .unset, .unset, .unset] [(.int ((p2 &&& (255 : Int32)).toUInt32.toUInt16.toUInt32.toInt32))])) _
          refine XS.istore X0.here hx rfl (hb hby at_6) rfl (l' := #[.val (.int p0), .val (.int p1), .val (.int p2), .val (.int p3), .val (.int ((p2 &&& (255 : Int32)).toUInt32.toUInt16.toUInt32.toInt32)), .unset, .unset, .unset, .unset, .unset]) rfl ?_
          show Steps p.tables e below (s₁.setTop (mkF m 8 #[.val (.int p0), .val (.int p1), .val (.int p2), .val (.int p3), .val (.int ((p2 &&& (255 : Int32)).toUInt32.toUInt16.toUInt32.toInt32)), .unset, .unset, .unset, .unset, .unset] [])) _
          refine XS.iloadN X0.here hx rfl (hb hby at_8) rfl ?_
          show Steps p.tables e below (s₁.setTop (mkF m 9 #[.val (.int p0), .val (.int p1), .val (.int p2), .val (.int p3), .val (.int ((p2 &&& (255 : Int32)).toUInt32.toUInt16.toUInt32.toInt32)), .unset, .unset, .unset, .unset, .unset] [(.int p3)])) _
          refine XS.sipush X0.here hx rfl (hb hby at_9) ?_
          show Steps p.tables e below (s₁.setTop (mkF m 12 #[.val (.int p0), .val (.int p1), .val (.int p2), .val (.int p3), .val (.int ((p2 &&& (255 : Int32)).toUInt32.toUInt16.toUInt32.toInt32)), .unset, .unset, .unset, .unset, .unset] [(.int (255 : Int32)), (.int p3)])) _
          refine XS.iand X0.here hx rfl (hb hby at_12) rfl ?_
          show Steps p.tables e below (s₁.setTop (mkF m 13 #[.val (.int p0), .val (.int p1), .val (.int p2), .val (.int p3), .val (.int ((p2 &&& (255 : Int32)).toUInt32.toUInt16.toUInt32.toInt32)), .unset, .unset, .unset, .unset, .unset] [(.int (p3 &&& (255 : Int32)))])) _
          refine XS.i2c X0.here hx rfl (hb hby at_13) rfl ?_
          show Steps p.tables e below (s₁.setTop (mkF m 14 #[.val (.int p0), .val (.int p1), .val (.int p2), .val (.int p3), .val (.int ((p2 &&& (255 : Int32)).toUInt32.toUInt16.toUInt32.toInt32)), .unset, .unset, .unset, .unset, .unset] [(.int ((p3 &&& (255 : Int32)).toUInt32.toUInt16.toUInt32.toInt32))])) _
          refine XS.istore X0.here hx rfl (hb hby at_14) rfl (l' := #[.val (.int p0), .val (.int p1), .val (.int p2), .val (.int p3), .val (.int ((p2 &&& (255 : Int32)).toUInt32.toUInt16.toUInt32.toInt32)), .val (.int ((p3 &&& (255 : Int32)).toUInt32.toUInt16.toUInt32.toInt32)), .unset, .unset, .unset, .unset]) rfl ?_
          show Steps p.tables e below (s₁.setTop (mkF m 16 #[.val (.int p0), .val (.int p1), .val (.int p2), .val (.int p3), .val (.int ((p2 &&& (255 : Int32)).toUInt32.toUInt16.toUInt32.toInt32)), .val (.int ((p3 &&& (255 : Int32)).toUInt32.toUInt16.toUInt32.toInt32)), .unset, .unset, .unset, .unset] [])) _
          refine XS.iloadN X0.here hx rfl (hb hby at_16) rfl ?_
          show Steps p.tables e below (s₁.setTop (mkF m 17 #[.val (.int p0), .val (.int p1), .val (.int p2), .val (.int p3), .val (.int ((p2 &&& (255 : Int32)).toUInt32.toUInt16.toUInt32.toInt32)), .val (.int ((p3 &&& (255 : Int32)).toUInt32.toUInt16.toUInt32.toInt32)), .unset, .unset, .unset, .unset] [(.int p1)])) _
          refine XS.iconst X0.here hx rfl (hb hby at_17) ?_
          show Steps p.tables e below (s₁.setTop (mkF m 18 #[.val (.int p0), .val (.int p1), .val (.int p2), .val (.int p3), .val (.int ((p2 &&& (255 : Int32)).toUInt32.toUInt16.toUInt32.toInt32)), .val (.int ((p3 &&& (255 : Int32)).toUInt32.toUInt16.toUInt32.toInt32)), .unset, .unset, .unset, .unset] [(.int (1 : Int32)), (.int p1)])) _
          refine XS.iand X0.here hx rfl (hb hby at_18) rfl ?_
          have key : Steps p.tables e below (s₁.setTop (mkF m 27 #[.val (.int p0), .val (.int p1), .val (.int p2), .val (.int p3), .val (.int ((p2 &&& (255 : Int32)).toUInt32.toUInt16.toUInt32.toInt32)), .val (.int ((p3 &&& (255 : Int32)).toUInt32.toUInt16.toUInt32.toInt32)), .unset, .unset, .unset, .unset] [(.int (f_first (p1 &&& (1 : Int32))))])) (Tr5.setFrames fs) := by
            show Steps p.tables e below (s₁.setTop (mkF m 27 #[.val (.int p0), .val (.int p1), .val (.int p2), .val (.int p3), .val (.int ((p2 &&& (255 : Int32)).toUInt32.toUInt16.toUInt32.toInt32)), .val (.int ((p3 &&& (255 : Int32)).toUInt32.toUInt16.toUInt32.toInt32)), .unset, .unset, .unset, .unset] [(.int (f_first (p1 &&& (1 : Int32))))])) _
            refine XS.istore X0.here hx rfl (hb hby at_27) rfl (l' := #[.val (.int p0), .val (.int p1), .val (.int p2), .val (.int p3), .val (.int ((p2 &&& (255 : Int32)).toUInt32.toUInt16.toUInt32.toInt32)), .val (.int ((p3 &&& (255 : Int32)).toUInt32.toUInt16.toUInt32.toInt32)), .val (.int (f_first (p1 &&& (1 : Int32)))), .unset, .unset, .unset]) rfl ?_
            show Steps p.tables e below (s₁.setTop (mkF m 29 #[.val (.int p0), .val (.int p1), .val (.int p2), .val (.int p3), .val (.int ((p2 &&& (255 : Int32)).toUInt32.toUInt16.toUInt32.toInt32)), .val (.int ((p3 &&& (255 : Int32)).toUInt32.toUInt16.toUInt32.toInt32)), .val (.int (f_first (p1 &&& (1 : Int32)))), .unset, .unset, .unset] [])) _
            refine XS.iloadN X0.here hx rfl (hb hby at_29) rfl ?_
            show Steps p.tables e below (s₁.setTop (mkF m 30 #[.val (.int p0), .val (.int p1), .val (.int p2), .val (.int p3), .val (.int ((p2 &&& (255 : Int32)).toUInt32.toUInt16.toUInt32.toInt32)), .val (.int ((p3 &&& (255 : Int32)).toUInt32.toUInt16.toUInt32.toInt32)), .val (.int (f_first (p1 &&& (1 : Int32)))), .unset, .unset, .unset] [(.int p0)])) _
            refine X0.ldcInt hx hown (mvT hZ (hw _ (List.mem_of_getElem? (i := 0) rfl))) (g := (mkF m 30 #[.val (.int p0), .val (.int p1), .val (.int p2), .val (.int p3), .val (.int ((p2 &&& (255 : Int32)).toUInt32.toUInt16.toUInt32.toInt32)), .val (.int ((p3 &&& (255 : Int32)).toUInt32.toUInt16.toUInt32.toInt32)), .val (.int (f_first (p1 &&& (1 : Int32)))), .unset, .unset, .unset] [(.int p0)])) rfl (hb hby at_30) _ ?_
            show Steps p.tables e below (s₁.setTop (mkF m 32 #[.val (.int p0), .val (.int p1), .val (.int p2), .val (.int p3), .val (.int ((p2 &&& (255 : Int32)).toUInt32.toUInt16.toUInt32.toInt32)), .val (.int ((p3 &&& (255 : Int32)).toUInt32.toUInt16.toUInt32.toInt32)), .val (.int (f_first (p1 &&& (1 : Int32)))), .unset, .unset, .unset] [(.int (2147483647 : Int32)), (.int p0)])) _
            refine XS.iand X0.here hx rfl (hb hby at_32) rfl ?_
            show Steps p.tables e below (s₁.setTop (mkF m 33 #[.val (.int p0), .val (.int p1), .val (.int p2), .val (.int p3), .val (.int ((p2 &&& (255 : Int32)).toUInt32.toUInt16.toUInt32.toInt32)), .val (.int ((p3 &&& (255 : Int32)).toUInt32.toUInt16.toUInt32.toInt32)), .val (.int (f_first (p1 &&& (1 : Int32)))), .unset, .unset, .unset] [(.int (p0 &&& (2147483647 : Int32)))])) _
            refine XS.bipush X0.here hx rfl (hb hby at_33) ?_
            show Steps p.tables e below (s₁.setTop (mkF m 35 #[.val (.int p0), .val (.int p1), .val (.int p2), .val (.int p3), .val (.int ((p2 &&& (255 : Int32)).toUInt32.toUInt16.toUInt32.toInt32)), .val (.int ((p3 &&& (255 : Int32)).toUInt32.toUInt16.toUInt32.toInt32)), .val (.int (f_first (p1 &&& (1 : Int32)))), .unset, .unset, .unset] [(.int (10 : Int32)), (.int (p0 &&& (2147483647 : Int32)))])) _
            refine Jvm.RoadKit.iremM X0 hx rfl (hb hby at_35) rfl (by decide) ?_
            show Steps p.tables e below (s₁.setTop (mkF m 36 #[.val (.int p0), .val (.int p1), .val (.int p2), .val (.int p3), .val (.int ((p2 &&& (255 : Int32)).toUInt32.toUInt16.toUInt32.toInt32)), .val (.int ((p3 &&& (255 : Int32)).toUInt32.toUInt16.toUInt32.toInt32)), .val (.int (f_first (p1 &&& (1 : Int32)))), .unset, .unset, .unset] [(.int ((p0 &&& (2147483647 : Int32)) % (10 : Int32)))])) _
            refine XS.istore X0.here hx rfl (hb hby at_36) rfl (l' := #[.val (.int p0), .val (.int p1), .val (.int p2), .val (.int p3), .val (.int ((p2 &&& (255 : Int32)).toUInt32.toUInt16.toUInt32.toInt32)), .val (.int ((p3 &&& (255 : Int32)).toUInt32.toUInt16.toUInt32.toInt32)), .val (.int (f_first (p1 &&& (1 : Int32)))), .val (.int ((p0 &&& (2147483647 : Int32)) % (10 : Int32))), .unset, .unset]) rfl ?_
            show Steps p.tables e below (s₁.setTop (mkF m 38 #[.val (.int p0), .val (.int p1), .val (.int p2), .val (.int p3), .val (.int ((p2 &&& (255 : Int32)).toUInt32.toUInt16.toUInt32.toInt32)), .val (.int ((p3 &&& (255 : Int32)).toUInt32.toUInt16.toUInt32.toInt32)), .val (.int (f_first (p1 &&& (1 : Int32)))), .val (.int ((p0 &&& (2147483647 : Int32)) % (10 : Int32))), .unset, .unset] [])) _
            refine XS.iload X0.here hx rfl (hb hby at_38) rfl ?_
            show Steps p.tables e below (s₁.setTop (mkF m 40 #[.val (.int p0), .val (.int p1), .val (.int p2), .val (.int p3), .val (.int ((p2 &&& (255 : Int32)).toUInt32.toUInt16.toUInt32.toInt32)), .val (.int ((p3 &&& (255 : Int32)).toUInt32.toUInt16.toUInt32.toInt32)), .val (.int (f_first (p1 &&& (1 : Int32)))), .val (.int ((p0 &&& (2147483647 : Int32)) % (10 : Int32))), .unset, .unset] [(.int ((p0 &&& (2147483647 : Int32)) % (10 : Int32)))])) _
            refine XS.ifYes X0.here hx rfl (pc0 := 40) (pc' := 50) rfl (hb hby at_40) rfl ((if0 _ _).trans (feq hcase0).2) (by decide) (by decide) ?_
            show Steps p.tables e below (s₁.setTop (mkF m 50 #[.val (.int p0), .val (.int p1), .val (.int p2), .val (.int p3), .val (.int ((p2 &&& (255 : Int32)).toUInt32.toUInt16.toUInt32.toInt32)), .val (.int ((p3 &&& (255 : Int32)).toUInt32.toUInt16.toUInt32.toInt32)), .val (.int (f_first (p1 &&& (1 : Int32)))), .val (.int ((p0 &&& (2147483647 : Int32)) % (10 : Int32))), .unset, .unset] [])) _
            refine XS.iload X0.here hx rfl (hb hby at_50) rfl ?_
            show Steps p.tables e below (s₁.setTop (mkF m 52 #[.val (.int p0), .val (.int p1), .val (.int p2), .val (.int p3), .val (.int ((p2 &&& (255 : Int32)).toUInt32.toUInt16.toUInt32.toInt32)), .val (.int ((p3 &&& (255 : Int32)).toUInt32.toUInt16.toUInt32.toInt32)), .val (.int (f_first (p1 &&& (1 : Int32)))), .val (.int ((p0 &&& (2147483647 : Int32)) % (10 : Int32))), .unset, .unset] [(.int ((p0 &&& (2147483647 : Int32)) % (10 : Int32)))])) _
            refine XS.iconst X0.here hx rfl (hb hby at_52) ?_
            show Steps p.tables e below (s₁.setTop (mkF m 53 #[.val (.int p0), .val (.int p1), .val (.int p2), .val (.int p3), .val (.int ((p2 &&& (255 : Int32)).toUInt32.toUInt16.toUInt32.toInt32)), .val (.int ((p3 &&& (255 : Int32)).toUInt32.toUInt16.toUInt32.toInt32)), .val (.int (f_first (p1 &&& (1 : Int32)))), .val (.int ((p0 &&& (2147483647 : Int32)) % (10 : Int32))), .unset, .unset] [(.int (1 : Int32)), (.int ((p0 &&& (2147483647 : Int32)) % (10 : Int32)))])) _
            refine XS.icmpYes X0.here hx rfl (pc0 := 53) (pc' := 63) rfl (hb hby at_53) rfl (feq hcase1).2 (by decide) (by decide) ?_
            show Steps p.tables e below (s₁.setTop (mkF m 63 #[.val (.int p0), .val (.int p1), .val (.int p2), .val (.int p3), .val (.int ((p2 &&& (255 : Int32)).toUInt32.toUInt16.toUInt32.toInt32)), .val (.int ((p3 &&& (255 : Int32)).toUInt32.toUInt16.toUInt32.toInt32)), .val (.int (f_first (p1 &&& (1 : Int32)))), .val (.int ((p0 &&& (2147483647 : Int32)) % (10 : Int32))), .unset, .unset] [])) _
            refine XS.iload X0.here hx rfl (hb hby at_63) rfl ?_
            show Steps p.tables e below (s₁.setTop (mkF m 65 #[.val (.int p0), .val (.int p1), .val (.int p2), .val (.int p3), .val (.int ((p2 &&& (255 : Int32)).toUInt32.toUInt16.toUInt32.toInt32)), .val (.int ((p3 &&& (255 : Int32)).toUInt32.toUInt16.toUInt32.toInt32)), .val (.int (f_first (p1 &&& (1 : Int32)))), .val (.int ((p0 &&& (2147483647 : Int32)) % (10 : Int32))), .unset, .unset] [(.int ((p0 &&& (2147483647 : Int32)) % (10 : Int32)))])) _
            refine XS.iconst X0.here hx rfl (hb hby at_65) ?_
            show Steps p.tables e below (s₁.setTop (mkF m 66 #[.val (.int p0), .val (.int p1), .val (.int p2), .val (.int p3), .val (.int ((p2 &&& (255 : Int32)).toUInt32.toUInt16.toUInt32.toInt32)), .val (.int ((p3 &&& (255 : Int32)).toUInt32.toUInt16.toUInt32.toInt32)), .val (.int (f_first (p1 &&& (1 : Int32)))), .val (.int ((p0 &&& (2147483647 : Int32)) % (10 : Int32))), .unset, .unset] [(.int (2 : Int32)), (.int ((p0 &&& (2147483647 : Int32)) % (10 : Int32)))])) _
            refine XS.icmpYes X0.here hx rfl (pc0 := 66) (pc' := 76) rfl (hb hby at_66) rfl (feq hcase2).2 (by decide) (by decide) ?_
            show Steps p.tables e below (s₁.setTop (mkF m 76 #[.val (.int p0), .val (.int p1), .val (.int p2), .val (.int p3), .val (.int ((p2 &&& (255 : Int32)).toUInt32.toUInt16.toUInt32.toInt32)), .val (.int ((p3 &&& (255 : Int32)).toUInt32.toUInt16.toUInt32.toInt32)), .val (.int (f_first (p1 &&& (1 : Int32)))), .val (.int ((p0 &&& (2147483647 : Int32)) % (10 : Int32))), .unset, .unset] [])) _
            refine XS.iload X0.here hx rfl (hb hby at_76) rfl ?_
            show Steps p.tables e below (s₁.setTop (mkF m 78 #[.val (.int p0), .val (.int p1), .val (.int p2), .val (.int p3), .val (.int ((p2 &&& (255 : Int32)).toUInt32.toUInt16.toUInt32.toInt32)), .val (.int ((p3 &&& (255 : Int32)).toUInt32.toUInt16.toUInt32.toInt32)), .val (.int (f_first (p1 &&& (1 : Int32)))), .val (.int ((p0 &&& (2147483647 : Int32)) % (10 : Int32))), .unset, .unset] [(.int ((p0 &&& (2147483647 : Int32)) % (10 : Int32)))])) _
            refine XS.iconst X0.here hx rfl (hb hby at_78) ?_
            show Steps p.tables e below (s₁.setTop (mkF m 79 #[.val (.int p0), .val (.int p1), .val (.int p2), .val (.int p3), .val (.int ((p2 &&& (255 : Int32)).toUInt32.toUInt16.toUInt32.toInt32)), .val (.int ((p3 &&& (255 : Int32)).toUInt32.toUInt16.toUInt32.toInt32)), .val (.int (f_first (p1 &&& (1 : Int32)))), .val (.int ((p0 &&& (2147483647 : Int32)) % (10 : Int32))), .unset, .unset] [(.int (3 : Int32)), (.int ((p0 &&& (2147483647 : Int32)) % (10 : Int32)))])) _
            refine XS.icmpNo X0.here hx rfl (hb hby at_79) rfl (teq hcase3).2 ?_
            show Steps p.tables e below (s₁.setTop (mkF m 82 #[.val (.int p0), .val (.int p1), .val (.int p2), .val (.int p3), .val (.int ((p2 &&& (255 : Int32)).toUInt32.toUInt16.toUInt32.toInt32)), .val (.int ((p3 &&& (255 : Int32)).toUInt32.toUInt16.toUInt32.toInt32)), .val (.int (f_first (p1 &&& (1 : Int32)))), .val (.int ((p0 &&& (2147483647 : Int32)) % (10 : Int32))), .unset, .unset] [])) _
            refine XS.aconstNull X0.here hx rfl (hb hby at_82) ?_
            show Steps p.tables e below (s₁.setTop (mkF m 83 #[.val (.int p0), .val (.int p1), .val (.int p2), .val (.int p3), .val (.int ((p2 &&& (255 : Int32)).toUInt32.toUInt16.toUInt32.toInt32)), .val (.int ((p3 &&& (255 : Int32)).toUInt32.toUInt16.toUInt32.toInt32)), .val (.int (f_first (p1 &&& (1 : Int32)))), .val (.int ((p0 &&& (2147483647 : Int32)) % (10 : Int32))), .unset, .unset] [.null])) _
            refine XS.astore X0.here hx rfl (hb hby at_83) rfl rfl (l' := #[.val (.int p0), .val (.int p1), .val (.int p2), .val (.int p3), .val (.int ((p2 &&& (255 : Int32)).toUInt32.toUInt16.toUInt32.toInt32)), .val (.int ((p3 &&& (255 : Int32)).toUInt32.toUInt16.toUInt32.toInt32)), .val (.int (f_first (p1 &&& (1 : Int32)))), .val (.int ((p0 &&& (2147483647 : Int32)) % (10 : Int32))), .val .null, .unset]) rfl ?_
            show Steps p.tables e below (s₁.setTop (mkF m 85 #[.val (.int p0), .val (.int p1), .val (.int p2), .val (.int p3), .val (.int ((p2 &&& (255 : Int32)).toUInt32.toUInt16.toUInt32.toInt32)), .val (.int ((p3 &&& (255 : Int32)).toUInt32.toUInt16.toUInt32.toInt32)), .val (.int (f_first (p1 &&& (1 : Int32)))), .val (.int ((p0 &&& (2147483647 : Int32)) % (10 : Int32))), .val .null, .unset] [])) _
            refine XS.goto X0.here hx rfl (pc0 := 85) (pc' := 632) rfl (hb hby at_85) (by decide) (by decide) ?_
            show Steps p.tables e below (s₁.setTop (mkF m 632 #[.val (.int p0), .val (.int p1), .val (.int p2), .val (.int p3), .val (.int ((p2 &&& (255 : Int32)).toUInt32.toUInt16.toUInt32.toInt32)), .val (.int ((p3 &&& (255 : Int32)).toUInt32.toUInt16.toUInt32.toInt32)), .val (.int (f_first (p1 &&& (1 : Int32)))), .val (.int ((p0 &&& (2147483647 : Int32)) % (10 : Int32))), .val .null, .unset] [])) _
            refine XS.aconstNull X0.here hx rfl (hb hby at_632) ?_
            show Steps p.tables e below (s₁.setTop (mkF m 633 #[.val (.int p0), .val (.int p1), .val (.int p2), .val (.int p3), .val (.int ((p2 &&& (255 : Int32)).toUInt32.toUInt16.toUInt32.toInt32)), .val (.int ((p3 &&& (255 : Int32)).toUInt32.toUInt16.toUInt32.toInt32)), .val (.int (f_first (p1 &&& (1 : Int32)))), .val (.int ((p0 &&& (2147483647 : Int32)) % (10 : Int32))), .val .null, .unset] [.null])) _
            refine XS.astore X0.here hx rfl (hb hby at_633) rfl rfl (l' := #[.val (.int p0), .val (.int p1), .val (.int p2), .val (.int p3), .val (.int ((p2 &&& (255 : Int32)).toUInt32.toUInt16.toUInt32.toInt32)), .val (.int ((p3 &&& (255 : Int32)).toUInt32.toUInt16.toUInt32.toInt32)), .val (.int (f_first (p1 &&& (1 : Int32)))), .val (.int ((p0 &&& (2147483647 : Int32)) % (10 : Int32))), .val .null, .val .null]) rfl ?_
            show Steps p.tables e below (s₁.setTop (mkF m 635 #[.val (.int p0), .val (.int p1), .val (.int p2), .val (.int p3), .val (.int ((p2 &&& (255 : Int32)).toUInt32.toUInt16.toUInt32.toInt32)), .val (.int ((p3 &&& (255 : Int32)).toUInt32.toUInt16.toUInt32.toInt32)), .val (.int (f_first (p1 &&& (1 : Int32)))), .val (.int ((p0 &&& (2147483647 : Int32)) % (10 : Int32))), .val .null, .val .null] [])) _
            refine str1 _ ?_
            show Steps p.tables e below (Tr1.setTop (mkF m 637 #[.val (.int p0), .val (.int p1), .val (.int p2), .val (.int p3), .val (.int ((p2 &&& (255 : Int32)).toUInt32.toUInt16.toUInt32.toInt32)), .val (.int ((p3 &&& (255 : Int32)).toUInt32.toUInt16.toUInt32.toInt32)), .val (.int (f_first (p1 &&& (1 : Int32)))), .val (.int ((p0 &&& (2147483647 : Int32)) % (10 : Int32))), .val .null, .val .null] [(.ref ar1)])) _
            refine XS.aload Xr1.here hx rfl (hb hby at_637) rfl rfl ?_
            show Steps p.tables e below (Tr1.setTop (mkF m 639 #[.val (.int p0), .val (.int p1), .val (.int p2), .val (.int p3), .val (.int ((p2 &&& (255 : Int32)).toUInt32.toUInt16.toUInt32.toInt32)), .val (.int ((p3 &&& (255 : Int32)).toUInt32.toUInt16.toUInt32.toInt32)), .val (.int (f_first (p1 &&& (1 : Int32)))), .val (.int ((p0 &&& (2147483647 : Int32)) % (10 : Int32))), .val .null, .val .null] [.null, (.ref ar1)])) _
            refine str2.trans ?_
            show Steps p.tables e below (Tr2.setTop (mkF m 642 #[.val (.int p0), .val (.int p1), .val (.int p2), .val (.int p3), .val (.int ((p2 &&& (255 : Int32)).toUInt32.toUInt16.toUInt32.toInt32)), .val (.int ((p3 &&& (255 : Int32)).toUInt32.toUInt16.toUInt32.toInt32)), .val (.int (f_first (p1 &&& (1 : Int32)))), .val (.int ((p0 &&& (2147483647 : Int32)) % (10 : Int32))), .val .null, .val .null] [(.int (0 : Int32))])) _
            refine XS.ifYes Xr2.here hx rfl (pc0 := 642) (pc' := 653) rfl (hb hby at_642) rfl ((if0 _ _).trans (teq (rfl : (0 : Int32) = (0 : Int32))).1) (by decide) (by decide) ?_
            show Steps p.tables e below (Tr2.setTop (mkF m 653 #[.val (.int p0), .val (.int p1), .val (.int p2), .val (.int p3), .val (.int ((p2 &&& (255 : Int32)).toUInt32.toUInt16.toUInt32.toInt32)), .val (.int ((p3 &&& (255 : Int32)).toUInt32.toUInt16.toUInt32.toInt32)), .val (.int (f_first (p1 &&& (1 : Int32)))), .val (.int ((p0 &&& (2147483647 : Int32)) % (10 : Int32))), .val .null, .val .null] [])) _
            refine str3 _ ?_
            show Steps p.tables e below (Tr3.setTop (mkF m 655 #[.val (.int p0), .val (.int p1), .val (.int p2), .val (.int p3), .val (.int ((p2 &&& (255 : Int32)).toUInt32.toUInt16.toUInt32.toInt32)), .val (.int ((p3 &&& (255 : Int32)).toUInt32.toUInt16.toUInt32.toInt32)), .val (.int (f_first (p1 &&& (1 : Int32)))), .val (.int ((p0 &&& (2147483647 : Int32)) % (10 : Int32))), .val .null, .val .null] [(.ref ar3)])) _
            refine XS.aload Xr3.here hx rfl (hb hby at_655) rfl rfl ?_
            show Steps p.tables e below (Tr3.setTop (mkF m 657 #[.val (.int p0), .val (.int p1), .val (.int p2), .val (.int p3), .val (.int ((p2 &&& (255 : Int32)).toUInt32.toUInt16.toUInt32.toInt32)), .val (.int ((p3 &&& (255 : Int32)).toUInt32.toUInt16.toUInt32.toInt32)), .val (.int (f_first (p1 &&& (1 : Int32)))), .val (.int ((p0 &&& (2147483647 : Int32)) % (10 : Int32))), .val .null, .val .null] [.null, (.ref ar3)])) _
            refine str4.trans ?_
            show Steps p.tables e below (Tr4.setTop (mkF m 660 #[.val (.int p0), .val (.int p1), .val (.int p2), .val (.int p3), .val (.int ((p2 &&& (255 : Int32)).toUInt32.toUInt16.toUInt32.toInt32)), .val (.int ((p3 &&& (255 : Int32)).toUInt32.toUInt16.toUInt32.toInt32)), .val (.int (f_first (p1 &&& (1 : Int32)))), .val (.int ((p0 &&& (2147483647 : Int32)) % (10 : Int32))), .val .null, .val .null] [(.int (0 : Int32))])) _
            refine XS.ifYes Xr4.here hx rfl (pc0 := 660) (pc' := 668) rfl (hb hby at_660) rfl ((if0 _ _).trans (teq (rfl : (0 : Int32) = (0 : Int32))).1) (by decide) (by decide) ?_
            show Steps p.tables e below (Tr4.setTop (mkF m 668 #[.val (.int p0), .val (.int p1), .val (.int p2), .val (.int p3), .val (.int ((p2 &&& (255 : Int32)).toUInt32.toUInt16.toUInt32.toInt32)), .val (.int ((p3 &&& (255 : Int32)).toUInt32.toUInt16.toUInt32.toInt32)), .val (.int (f_first (p1 &&& (1 : Int32)))), .val (.int ((p0 &&& (2147483647 : Int32)) % (10 : Int32))), .val .null, .val .null] [])) _
            refine XS.aload Xr4.here hx rfl (hb hby at_668) rfl rfl ?_
            show Steps p.tables e below (Tr4.setTop (mkF m 670 #[.val (.int p0), .val (.int p1), .val (.int p2), .val (.int p3), .val (.int ((p2 &&& (255 : Int32)).toUInt32.toUInt16.toUInt32.toInt32)), .val (.int ((p3 &&& (255 : Int32)).toUInt32.toUInt16.toUInt32.toInt32)), .val (.int (f_first (p1 &&& (1 : Int32)))), .val (.int ((p0 &&& (2147483647 : Int32)) % (10 : Int32))), .val .null, .val .null] [.null])) _
            refine str5 _ ?_
            show Steps p.tables e below (Tr5.setTop (mkF m 673 #[.val (.int p0), .val (.int p1), .val (.int p2), .val (.int p3), .val (.int ((p2 &&& (255 : Int32)).toUInt32.toUInt16.toUInt32.toInt32)), .val (.int ((p3 &&& (255 : Int32)).toUInt32.toUInt16.toUInt32.toInt32)), .val (.int (f_first (p1 &&& (1 : Int32)))), .val (.int ((p0 &&& (2147483647 : Int32)) % (10 : Int32))), .val .null, .val .null] [.null])) _
            refine XS.aload Xr5.here hx rfl (hb hby at_673) rfl rfl ?_
            show Steps p.tables e below (Tr5.setTop (mkF m 675 #[.val (.int p0), .val (.int p1), .val (.int p2), .val (.int p3), .val (.int ((p2 &&& (255 : Int32)).toUInt32.toUInt16.toUInt32.toInt32)), .val (.int ((p3 &&& (255 : Int32)).toUInt32.toUInt16.toUInt32.toInt32)), .val (.int (f_first (p1 &&& (1 : Int32)))), .val (.int ((p0 &&& (2147483647 : Int32)) % (10 : Int32))), .val .null, .val .null] [.null, .null])) _
            refine Jvm.RoadKit.acmp (g := (mkF m 675 #[.val (.int p0), .val (.int p1), .val (.int p2), .val (.int p3), .val (.int ((p2 &&& (255 : Int32)).toUInt32.toUInt16.toUInt32.toInt32)), .val (.int ((p3 &&& (255 : Int32)).toUInt32.toUInt16.toUInt32.toInt32)), .val (.int (f_first (p1 &&& (1 : Int32)))), .val (.int ((p0 &&& (2147483647 : Int32)) % (10 : Int32))), .val .null, .val .null] [.null, .null])) Xr5 hx rfl rfl rfl (pc0 := 675) (pc' := 678) (same := true) rfl (hb hby at_675) rfl (decide_eq_true rfl) (by decide) (by decide) ?_
            show Steps p.tables e below (Tr5.setTop (mkF m 678 #[.val (.int p0), .val (.int p1), .val (.int p2), .val (.int p3), .val (.int ((p2 &&& (255 : Int32)).toUInt32.toUInt16.toUInt32.toInt32)), .val (.int ((p3 &&& (255 : Int32)).toUInt32.toUInt16.toUInt32.toInt32)), .val (.int (f_first (p1 &&& (1 : Int32)))), .val (.int ((p0 &&& (2147483647 : Int32)) % (10 : Int32))), .val .null, .val .null] [])) _
            refine XS.iconst Xr5.here hx rfl (hb hby at_678) ?_
            show Steps p.tables e below (Tr5.setTop (mkF m 679 #[.val (.int p0), .val (.int p1), .val (.int p2), .val (.int p3), .val (.int ((p2 &&& (255 : Int32)).toUInt32.toUInt16.toUInt32.toInt32)), .val (.int ((p3 &&& (255 : Int32)).toUInt32.toUInt16.toUInt32.toInt32)), .val (.int (f_first (p1 &&& (1 : Int32)))), .val (.int ((p0 &&& (2147483647 : Int32)) % (10 : Int32))), .val .null, .val .null] [(.int (1 : Int32))])) _
            refine XS.goto Xr5.here hx rfl (pc0 := 679) (pc' := 683) rfl (hb hby at_679) (by decide) (by decide) ?_
            show Steps p.tables e below (Tr5.setTop (mkF m 683 #[.val (.int p0), .val (.int p1), .val (.int p2), .val (.int p3), .val (.int ((p2 &&& (255 : Int32)).toUInt32.toUInt16.toUInt32.toInt32)), .val (.int ((p3 &&& (255 : Int32)).toUInt32.toUInt16.toUInt32.toInt32)), .val (.int (f_first (p1 &&& (1 : Int32)))), .val (.int ((p0 &&& (2147483647 : Int32)) % (10 : Int32))), .val .null, .val .null] [(.int (1 : Int32))])) _
            exact retN Xr5 hx (t := .boolean) Bd.returns (by simp) (hb hby at_683) hr
          show Steps p.tables e below (s₁.setTop (mkF m 19 #[.val (.int p0), .val (.int p1), .val (.int p2), .val (.int p3), .val (.int ((p2 &&& (255 : Int32)).toUInt32.toUInt16.toUInt32.toInt32)), .val (.int ((p3 &&& (255 : Int32)).toUInt32.toUInt16.toUInt32.toInt32)), .unset, .unset, .unset, .unset] [(.int (p1 &&& (1 : Int32)))])) _
          by_cases hc19_0 : (p1 &&& (1 : Int32)) = (0 : Int32)
          · refine XS.ifNo X0.here hx rfl (hb hby at_19) rfl ((if0 _ _).trans (teq hc19_0).2) ?_
            show Steps p.tables e below (s₁.setTop (mkF m 22 #[.val (.int p0), .val (.int p1), .val (.int p2), .val (.int p3), .val (.int ((p2 &&& (255 : Int32)).toUInt32.toUInt16.toUInt32.toInt32)), .val (.int ((p3 &&& (255 : Int32)).toUInt32.toUInt16.toUInt32.toInt32)), .unset, .unset, .unset, .unset] [])) _
            refine XS.iconst X0.here hx rfl (hb hby at_22) ?_
            show Steps p.tables e below (s₁.setTop (mkF m 23 #[.val (.int p0), .val (.int p1), .val (.int p2), .val (.int p3), .val (.int ((p2 &&& (255 : Int32)).toUInt32.toUInt16.toUInt32.toInt32)), .val (.int ((p3 &&& (255 : Int32)).toUInt32.toUInt16.toUInt32.toInt32)), .unset, .unset, .unset, .unset] [(.int (1 : Int32))])) _
            refine XS.goto X0.here hx rfl (pc0 := 23) (pc' := 27) rfl (hb hby at_23) (by decide) (by decide) ?_
            show Steps p.tables e below (s₁.setTop (mkF m 27 #[.val (.int p0), .val (.int p1), .val (.int p2), .val (.int p3), .val (.int ((p2 &&& (255 : Int32)).toUInt32.toUInt16.toUInt32.toInt32)), .val (.int ((p3 &&& (255 : Int32)).toUInt32.toUInt16.toUInt32.toInt32)), .unset, .unset, .unset, .unset] [(.int (1 : Int32))])) _
            have hf : f_first (p1 &&& (1 : Int32)) = (1 : Int32) := by unfold f_first; rw [if_pos hc19_0]
            rw [hf] at key
            exact key
          · refine XS.ifYes X0.here hx rfl (pc0 := 19) (pc' := 26) rfl (hb hby at_19) rfl ((if0 _ _).trans (feq hc19_0).2) (by decide) (by decide) ?_
            show Steps p.tables e below (s₁.setTop (mkF m 26 #[.val (.int p0), .val (.int p1), .val (.int p2), .val (.int p3), .val (.int ((p2 &&& (255 : Int32)).toUInt32.toUInt16.toUInt32.toInt32)), .val (.int ((p3 &&& (255 : Int32)).toUInt32.toUInt16.toUInt32.toInt32)), .unset, .unset, .unset, .unset] [])) _
            refine XS.iconst X0.here hx rfl (hb hby at_26) ?_
            show Steps p.tables e below (s₁.setTop (mkF m 27 #[.val (.int p0), .val (.int p1), .val (.int p2), .val (.int p3), .val (.int ((p2 &&& (255 : Int32)).toUInt32.toUInt16.toUInt32.toInt32)), .val (.int ((p3 &&& (255 : Int32)).toUInt32.toUInt16.toUInt32.toInt32)), .unset, .unset, .unset, .unset] [(.int (0 : Int32))])) _
            have hf : f_first (p1 &&& (1 : Int32)) = (0 : Int32) := by unfold f_first; rw [if_neg hc19_0]
            rw [hf] at key
            exact key
        · by_cases hcase4 : ((p0 &&& (2147483647 : Int32)) % (10 : Int32)) = (4 : Int32)
          · have O0 : Old Z n0 h0 := ⟨by rw [← hU, hh, hn0], by rw [← hU, hh]; exact ⟨Nat.le_refl _, fun _ _ q => q⟩⟩
            obtain ⟨Tr1, hr1, kr1, Xr1, er1, Er1, Ar1, str1⟩ := newP X0 hx hZ (hw _ (List.mem_of_getElem? (i := 37) rfl)) e0 (g := (mkF m 96 #[.val (.int p0), .val (.int p1), .val (.int p2), .val (.int p3), .val (.int ((p2 &&& (255 : Int32)).toUInt32.toUInt16.toUInt32.toInt32)), .val (.int ((p3 &&& (255 : Int32)).toUInt32.toUInt16.toUInt32.toInt32)), .val (.int (f_first (p1 &&& (1 : Int32)))), .val (.int ((p0 &&& (2147483647 : Int32)) % (10 : Int32))), .unset, .unset] [(.int (8 : Int32))])) rfl (hb hby at_96) rfl (by decide) (cap := 8) (by decide) (by decide) (by decide) (by decide)
            obtain ⟨br1, gr1⟩ : ∃ z, z = h0.size := ⟨_, rfl⟩
            rw [← gr1] at Ar1 str1
            have Vr1 : Arv Z hr1 br1 kr1 .char (8 : Int32) [(.int (0 : Int32)), (.int (0 : Int32)), (.int (0 : Int32)), (.int (0 : Int32)), (.int (0 : Int32)), (.int (0 : Int32)), (.int (0 : Int32)), (.int (0 : Int32))] (.int (0 : Int32)) := (Arv.new Ar1 (by decide)).pad (pad_rep [] (.int (0 : Int32)) 8)
            have g_br1 : n0 ≤ br1 := Nat.le_trans Z0 (Nat.le_of_eq gr1.symm)
            have Zr1 : n0 ≤ hr1.size := Nat.le_trans Z0 Er1.1
            have Or1 := O0.ext Er1
            have G0 := hH0.ext Er1
            obtain ⟨cr2, Ar2, qr2, Sr2, Mr2, Hr2, Ur2⟩ := id Vr1
            obtain ⟨Tr2, hr2, Xr2, er2, Wr2, str2⟩ := stC Xr1 hx hZ er1 Ar2 (j := (0 : Int32)) (inb_of Sr2 ⟨(by decide : ¬ ((0 : Int32) < (0 : Int32))), (by decide : (0 : Int32) < (8 : Int32))⟩) (g := (mkF m 102 #[.val (.int p0), .val (.int p1), .val (.int p2), .val (.int p3), .val (.int ((p2 &&& (255 : Int32)).toUInt32.toUInt16.toUInt32.toInt32)), .val (.int ((p3 &&& (255 : Int32)).toUInt32.toUInt16.toUInt32.toInt32)), .val (.int (f_first (p1 &&& (1 : Int32)))), .val (.int ((p0 &&& (2147483647 : Int32)) % (10 : Int32))), .unset, .unset] [(.int (108 : Int32)), (.int (0 : Int32)), (.ref br1), (.ref br1)])) rfl rfl (hb hby at_102)
            have Nr2 := Fr.snoc Xr2 N0 g_br1
            have Vr2 : Arv Z hr2 br1 kr1 .char (8 : Int32) [(.int (nar .char (108 : Int32))), (.int (0 : Int32)), (.int (0 : Int32)), (.int (0 : Int32)), (.int (0 : Int32)), (.int (0 : Int32)), (.int (0 : Int32)), (.int (0 : Int32))] (.int (0 : Int32)) := Arv.set Ar2 qr2 Sr2 Mr2 Hr2 Ur2 (fits_nar_char _) Wr2 0 rfl (Nat.le_of_ble_eq_true rfl)
            have Zr2 : n0 ≤ hr2.size := Nat.le_trans Zr1 (Keep.of_wr Wr2).1
            obtain ⟨Lpr2, Xr2, Nr2⟩ := own_pack Xr2 Nr2
            have Or2 := Or1.wr Wr2 g_br1
            have Gr2 := G0.wr Wr2 (Safe.arr hZ.alike Ar2 (by decide))
            obtain ⟨cr3, Ar3, qr3, Sr3, Mr3, Hr3, Ur3⟩ := id Vr2
            obtain ⟨Tr3, hr3, Xr3, er3, Wr3, str3⟩ := stC Xr2 hx hZ er2 Ar3 (j := (1 : Int32)) (inb_of Sr3 ⟨(by decide : ¬ ((1 : Int32) < (0 : Int32))), (by decide : (1 : Int32) < (8 : Int32))⟩) (g := (mkF m 107 #[.val (.int p0), .val (.int p1), .val (.int p2), .val (.int p3), .val (.int ((p2 &&& (255 : Int32)).toUInt32.toUInt16.toUInt32.toInt32)), .val (.int ((p3 &&& (255 : Int32)).toUInt32.toUInt16.toUInt32.toInt32)), .val (.int (f_first (p1 &&& (1 : Int32)))), .val (.int ((p0 &&& (2147483647 : Int32)) % (10 : Int32))), .unset, .unset] [(.int (117 : Int32)), (.int (1 : Int32)), (.ref br1), (.ref br1)])) rfl rfl (hb hby at_107)
            have Nr3 := Fr.snoc Xr3 Nr2 g_br1
            have Vr3 : Arv Z hr3 br1 kr1 .char (8 : Int32) [(.int (nar .char (108 : Int32))), (.int (nar .char (117 : Int32))), (.int (0 : Int32)), (.int (0 : Int32)), (.int (0 : Int32)), (.int (0 : Int32)), (.int (0 : Int32)), (.int (0 : Int32))] (.int (0 : Int32)) := Arv.set Ar3 qr3 Sr3 Mr3 Hr3 Ur3 (fits_nar_char _) Wr3 1 rfl (Nat.le_of_ble_eq_true rfl)
            have Zr3 : n0 ≤ hr3.size := Nat.le_trans Zr2 (Keep.of_wr Wr3).1
            obtain ⟨Lpr3, Xr3, Nr3⟩ := own_pack Xr3 Nr3
            have Or3 := Or2.wr Wr3 g_br1
            have Gr3 := Gr2.wr Wr3 (Safe.arr hZ.alike Ar3 (by decide))
            obtain ⟨cr4, Ar4, qr4, Sr4, Mr4, Hr4, Ur4⟩ := id Vr3
            obtain ⟨Tr4, hr4, Xr4, er4, Wr4, str4⟩ := stC Xr3 hx hZ er3 Ar4 (j := (2 : Int32)) (inb_of Sr4 ⟨(by decide : ¬ ((2 : Int32) < (0 : Int32))), (by decide : (2 : Int32) < (8 : Int32))⟩) (g := (mkF m 112 #[.val (.int p0), .val (.int p1), .val (.int p2), .val (.int p3), .val (.int ((p2 &&& (255 : Int32)).toUInt32.toUInt16.toUInt32.toInt32)), .val (.int ((p3 &&& (255 : Int32)).toUInt32.toUInt16.toUInt32.toInt32)), .val (.int (f_first (p1 &&& (1 : Int32)))), .val (.int ((p0 &&& (2147483647 : Int32)) % (10 : Int32))), .unset, .unset] [(.int (109 : Int32)), (.int (2 : Int32)), (.ref br1), (.ref br1)])) rfl rfl (hb hby at_112)
            have Nr4 := Fr.snoc Xr4 Nr3 g_br1
            have Vr4 : Arv Z hr4 br1 kr1 .char (8 : Int32) [(.int (nar .char (108 : Int32))), (.int (nar .char (117 : Int32))), (.int (nar .char (109 : Int32))), (.int (0 : Int32)), (.int (0 : Int32)), (.int (0 : Int32)), (.int (0 : Int32)), (.int (0 : Int32))] (.int (0 : Int32)) := Arv.set Ar4 qr4 Sr4 Mr4 Hr4 Ur4 (fits_nar_char _) Wr4 2 rfl (Nat.le_of_ble_eq_true rfl)
            have Zr4 : n0 ≤ hr4.size := Nat.le_trans Zr3 (Keep.of_wr Wr4).1
            obtain ⟨Lpr4, Xr4, Nr4⟩ := own_pack Xr4 Nr4
            have Or4 := Or3.wr Wr4 g_br1
            have Gr4 := Gr3.wr Wr4 (Safe.arr hZ.alike Ar4 (by decide))
            obtain ⟨cr5, Ar5, qr5, Sr5, Mr5, Hr5, Ur5⟩ := id Vr4
            obtain ⟨Tr5, hr5, Xr5, er5, Wr5, str5⟩ := stC Xr4 hx hZ er4 Ar5 (j := (3 : Int32)) (inb_of Sr5 ⟨(by decide : ¬ ((3 : Int32) < (0 : Int32))), (by decide : (3 : Int32) < (8 : Int32))⟩) (g := (mkF m 117 #[.val (.int p0), .val (.int p1), .val (.int p2), .val (.int p3), .val (.int ((p2 &&& (255 : Int32)).toUInt32.toUInt16.toUInt32.toInt32)), .val (.int ((p3 &&& (255 : Int32)).toUInt32.toUInt16.toUInt32.toInt32)), .val (.int (f_first (p1 &&& (1 : Int32)))), .val (.int ((p0 &&& (2147483647 : Int32)) % (10 : Int32))), .unset, .unset] [(.int (112 : Int32)), (.int (3 : Int32)), (.ref br1), (.ref br1)])) rfl rfl (hb hby at_117)
            have Nr5 := Fr.snoc Xr5 Nr4 g_br1
            have Vr5 : Arv Z hr5 br1 kr1 .char (8 : Int32) [(.int (nar .char (108 : Int32))), (.int (nar .char (117 : Int32))), (.int (nar .char (109 : Int32))), (.int (nar .char (112 : Int32))), (.int (0 : Int32)), (.int (0 : Int32)), (.int (0 : Int32)), (.int (0 : Int32))] (.int (0 : Int32)) := Arv.set Ar5 qr5 Sr5 Mr5 Hr5 Ur5 (fits_nar_char _) Wr5 3 rfl (Nat.le_of_ble_eq_true rfl)
            have Zr5 : n0 ≤ hr5.size := Nat.le_trans Zr4 (Keep.of_wr Wr5).1
            obtain ⟨Lpr5, Xr5, Nr5⟩ := own_pack Xr5 Nr5
            have Or5 := Or4.wr Wr5 g_br1
            have Gr5 := Gr4.wr Wr5 (Safe.arr hZ.alike Ar5 (by decide))
            obtain ⟨cr6, Ar6, qr6, Sr6, Mr6, Hr6, Ur6⟩ := id Vr5
            obtain ⟨Tr6, hr6, Xr6, er6, Wr6, str6⟩ := stC Xr5 hx hZ er5 Ar6 (j := (4 : Int32)) (inb_of Sr6 ⟨(by decide : ¬ ((4 : Int32) < (0 : Int32))), (by decide : (4 : Int32) < (8 : Int32))⟩) (g := (mkF m 122 #[.val (.int p0), .val (.int p1), .val (.int p2), .val (.int p3), .val (.int ((p2 &&& (255 : Int32)).toUInt32.toUInt16.toUInt32.toInt32)), .val (.int ((p3 &&& (255 : Int32)).toUInt32.toUInt16.toUInt32.toInt32)), .val (.int (f_first (p1 &&& (1 : Int32)))), .val (.int ((p0 &&& (2147483647 : Int32)) % (10 : Int32))), .unset, .unset] [(.int (45 : Int32)), (.int (4 : Int32)), (.ref br1), (.ref br1)])) rfl rfl (hb hby at_122)
            have Nr6 := Fr.snoc Xr6 Nr5 g_br1
            have Vr6 : Arv Z hr6 br1 kr1 .char (8 : Int32) [(.int (nar .char (108 : Int32))), (.int (nar .char (117 : Int32))), (.int (nar .char (109 : Int32))), (.int (nar .char (112 : Int32))), (.int (nar .char (45 : Int32))), (.int (0 : Int32)), (.int (0 : Int32)), (.int (0 : Int32))] (.int (0 : Int32)) := Arv.set Ar6 qr6 Sr6 Mr6 Hr6 Ur6 (fits_nar_char _) Wr6 4 rfl (Nat.le_of_ble_eq_true rfl)
            have Zr6 : n0 ≤ hr6.size := Nat.le_trans Zr5 (Keep.of_wr Wr6).1
            obtain ⟨Lpr6, Xr6, Nr6⟩ := own_pack Xr6 Nr6
            have Or6 := Or5.wr Wr6 g_br1
            have Gr6 := Gr5.wr Wr6 (Safe.arr hZ.alike Ar6 (by decide))
            obtain ⟨cr7, Ar7, qr7, Sr7, Mr7, Hr7, Ur7⟩ := id Vr6
            obtain ⟨Tr7, hr7, Xr7, er7, Wr7, str7⟩ := stC Xr6 hx hZ er6 Ar7 (j := (5 : Int32)) (inb_of Sr7 ⟨(by decide : ¬ ((5 : Int32) < (0 : Int32))), (by decide : (5 : Int32) < (8 : Int32))⟩) (g := (mkF m 127 #[.val (.int p0), .val (.int p1), .val (.int p2), .val (.int p3), .val (.int ((p2 &&& (255 : Int32)).toUInt32.toUInt16.toUInt32.toInt32)), .val (.int ((p3 &&& (255 : Int32)).toUInt32.toUInt16.toUInt32.toInt32)), .val (.int (f_first (p1 &&& (1 : Int32)))), .val (.int ((p0 &&& (2147483647 : Int32)) % (10 : Int32))), .unset, .unset] [(.int (115 : Int32)), (.int (5 : Int32)), (.ref br1), (.ref br1)])) rfl rfl (hb hby at_127)
            have Nr7 := Fr.snoc Xr7 Nr6 g_br1
            have Vr7 : Arv Z hr7 br1 kr1 .char (8 : Int32) [(.int (nar .char (108 : Int32))), (.int (nar .char (117 : Int32))), (.int (nar .char (109 : Int32))), (.int (nar .char (112 : Int32))), (.int (nar .char (45 : Int32))), (.int (nar .char (115 : Int32))), (.int (0 : Int32)), (.int (0 : Int32))] (.int (0 : Int32)) := Arv.set Ar7 qr7 Sr7 Mr7 Hr7 Ur7 (fits_nar_char _) Wr7 5 rfl (Nat.le_of_ble_eq_true rfl)
            have Zr7 : n0 ≤ hr7.size := Nat.le_trans Zr6 (Keep.of_wr Wr7).1
            obtain ⟨Lpr7, Xr7, Nr7⟩ := own_pack Xr7 Nr7
            have Or7 := Or6.wr Wr7 g_br1
            have Gr7 := Gr6.wr Wr7 (Safe.arr hZ.alike Ar7 (by decide))
            obtain ⟨cr8, Ar8, qr8, Sr8, Mr8, Hr8, Ur8⟩ := id Vr7
            obtain ⟨Tr8, hr8, Xr8, er8, Wr8, str8⟩ := stC Xr7 hx hZ er7 Ar8 (j := (6 : Int32)) (inb_of Sr8 ⟨(by decide : ¬ ((6 : Int32) < (0 : Int32))), (by decide : (6 : Int32) < (8 : Int32))⟩) (g := (mkF m 133 #[.val (.int p0), .val (.int p1), .val (.int p2), .val (.int p3), .val (.int ((p2 &&& (255 : Int32)).toUInt32.toUInt16.toUInt32.toInt32)), .val (.int ((p3 &&& (255 : Int32)).toUInt32.toUInt16.toUInt32.toInt32)), .val (.int (f_first (p1 &&& (1 : Int32)))), .val (.int ((p0 &&& (2147483647 : Int32)) % (10 : Int32))), .unset, .unset] [(.int (117 : Int32)), (.int (6 : Int32)), (.ref br1), (.ref br1)])) rfl rfl (hb hby at_133)
            have Nr8 := Fr.snoc Xr8 Nr7 g_br1
            have Vr8 : Arv Z hr8 br1 kr1 .char (8 : Int32) [(.int (nar .char (108 : Int32))), (.int (nar .char (117 : Int32))), (.int (nar .char (109 : Int32))), (.int (nar .char (112 : Int32))), (.int (nar .char (45 : Int32))), (.int (nar .char (115 : Int32))), (.int (nar .char (117 : Int32))), (.int (0 : Int32))] (.int (0 : Int32)) := Arv.set Ar8 qr8 Sr8 Mr8 Hr8 Ur8 (fits_nar_char _) Wr8 6 rfl (Nat.le_of_ble_eq_true rfl)
            have Zr8 : n0 ≤ hr8.size := Nat.le_trans Zr7 (Keep.of_wr Wr8).1
            obtain ⟨Lpr8, Xr8, Nr8⟩ := own_pack Xr8 Nr8
            have Or8 := Or7.wr Wr8 g_br1
            have Gr8 := Gr7.wr Wr8 (Safe.arr hZ.alike Ar8 (by decide))
            obtain ⟨cr9, Ar9, qr9, Sr9, Mr9, Hr9, Ur9⟩ := id Vr8
            obtain ⟨Tr9, hr9, Xr9, er9, Wr9, str9⟩ := stC Xr8 hx hZ er8 Ar9 (j := (7 : Int32)) (inb_of Sr9 ⟨(by decide : ¬ ((7 : Int32) < (0 : Int32))), (by decide : (7 : Int32) < (8 : Int32))⟩) (g := (mkF m 139 #[.val (.int p0), .val (.int p1), .val (.int p2), .val (.int p3), .val (.int ((p2 &&& (255 : Int32)).toUInt32.toUInt16.toUInt32.toInt32)), .val (.int ((p3 &&& (255 : Int32)).toUInt32.toUInt16.toUInt32.toInt32)), .val (.int (f_first (p1 &&& (1 : Int32)))), .val (.int ((p0 &&& (2147483647 : Int32)) % (10 : Int32))), .unset, .unset] [(.int (109 : Int32)), (.int (7 : Int32)), (.ref br1), (.ref br1)])) rfl rfl (hb hby at_139)
            have Nr9 := Fr.snoc Xr9 Nr8 g_br1
            have Vr9 : Arv Z hr9 br1 kr1 .char (8 : Int32) [(.int (nar .char (108 : Int32))), (.int (nar .char (117 : Int32))), (.int (nar .char (109 : Int32))), (.int (nar .char (112 : Int32))), (.int (nar .char (45 : Int32))), (.int (nar .char (115 : Int32))), (.int (nar .char (117 : Int32))), (.int (nar .char (109 : Int32)))] (.int (0 : Int32)) := Arv.set Ar9 qr9 Sr9 Mr9 Hr9 Ur9 (fits_nar_char _) Wr9 7 rfl (Nat.le_of_ble_eq_true rfl)
            have Zr9 : n0 ≤ hr9.size := Nat.le_trans Zr8 (Keep.of_wr Wr9).1
            obtain ⟨Lpr9, Xr9, Nr9⟩ := own_pack Xr9 Nr9
            have Or9 := Or8.wr Wr9 g_br1
            have Gr9 := Gr8.wr Wr9 (Safe.arr hZ.alike Ar9 (by decide))
            have hp : ∀ c ∈ ([(nar .char (108 : Int32)), (nar .char (117 : Int32)), (nar .char (109 : Int32)), (nar .char (112 : Int32)), (nar .char (45 : Int32)), (nar .char (115 : Int32)), (nar .char (117 : Int32)), (nar .char (109 : Int32))] : List Int32), ¬ c < 0 ∧ ¬ (255 : Int32) < c := by
              intro c hc
              simp only [List.mem_cons, List.not_mem_nil, or_false] at hc
              rcases hc with rfl | rfl | rfl | rfl | rfl | rfl | rfl | rfl
              · exact by decide
              · exact by decide
              · exact by decide
              · exact by decide
              · exact by decide
              · exact by decide
              · exact by decide
              · exact by decide
            obtain ⟨j, ej, hj, hjl⟩ : ∃ j, ((p1 &&& (2147483647 : Int32)) % (8 : Int32)) = j ∧ (¬ (j < (0 : Int32)) ∧ j < (8 : Int32)) ∧ j.toNatClampNeg < 8 := ⟨_, rfl, own_k8 p1, own_kl8 p1⟩
            obtain ⟨cr10, Ar10, qr10, Sr10, Mr10, Hr10, Ur10⟩ := id Vr9
            obtain ⟨Tr10, hr10, Xr10, er10, Wr10, str10⟩ := stC Xr9 hx hZ er9 Ar10 (j := j) (inb_of Sr10 hj) (g := (mkF m 153 #[.val (.int p0), .val (.int p1), .val (.int p2), .val (.int p3), .val (.int ((p2 &&& (255 : Int32)).toUInt32.toUInt16.toUInt32.toInt32)), .val (.int ((p3 &&& (255 : Int32)).toUInt32.toUInt16.toUInt32.toInt32)), .val (.int (f_first (p1 &&& (1 : Int32)))), .val (.int ((p0 &&& (2147483647 : Int32)) % (10 : Int32))), .unset, .val (.ref br1)] [(.int ((p2 &&& (255 : Int32)).toUInt32.toUInt16.toUInt32.toInt32)), (.int j), (.ref br1)])) rfl rfl (hb hby at_153)
            have Nr10 := Fr.snoc Xr10 Nr9 g_br1
            obtain ⟨Lpr10, Xr10, Nr10⟩ := own_pack Xr10 Nr10
            have Vr10 := Arv.set Ar10 qr10 Sr10 Mr10 Hr10 Ur10 (fits_nar_char _) Wr10 j.toNatClampNeg rfl hjl
            have Zr10 : n0 ≤ hr10.size := Nat.le_trans Zr9 (Keep.of_wr Wr10).1
            have Or10 := Or9.wr Wr10 g_br1
            have Gr10 := Gr9.wr Wr10 (Safe.arr hZ.alike Ar10 (by decide))
            obtain ⟨cs, hl, hp, Vcs⟩ : ∃ cs : List Int32, cs.length = 8 ∧ (∀ c ∈ cs, ¬ c < 0 ∧ ¬ (255 : Int32) < c) ∧ Arv Z hr10 br1 kr1 .char (8 : Int32) (cs.map Value.int) (.int (0 : Int32)) := ⟨([(nar .char (108 : Int32)), (nar .char (117 : Int32)), (nar .char (109 : Int32)), (nar .char (112 : Int32)), (nar .char (45 : Int32)), (nar .char (115 : Int32)), (nar .char (117 : Int32)), (nar .char (109 : Int32))] : List Int32).set j.toNatClampNeg (nar .char ((p2 &&& (255 : Int32)).toUInt32.toUInt16.toUInt32.toInt32)), by rw [List.length_set]; rfl, fun c hc => (List.mem_or_eq_of_mem_set hc).elim (hp c) (fun q => by rw [q]; exact and255_chars p2), by rw [List.map_set]; exact Vr10⟩
            obtain ⟨Tr11, hr11, Xr11, er11, Er11, Ar11, Dr11, -, str11⟩ := newO Xr10 hx hZ hown (hw _ (List.mem_of_getElem? (i := 38) rfl)) (hw _ (List.mem_of_getElem? (i := 3) rfl)) (hw _ (List.mem_of_getElem? (i := 2) rfl)) er10 (g := (mkF m 154 #[.val (.int p0), .val (.int p1), .val (.int p2), .val (.int p3), .val (.int ((p2 &&& (255 : Int32)).toUInt32.toUInt16.toUInt32.toInt32)), .val (.int ((p3 &&& (255 : Int32)).toUInt32.toUInt16.toUInt32.toInt32)), .val (.int (f_first (p1 &&& (1 : Int32)))), .val (.int ((p0 &&& (2147483647 : Int32)) % (10 : Int32))), .unset, .val (.ref br1)] [])) rfl (hb hby at_154) (by decide) (by decide)
            obtain ⟨br11, gr11⟩ : ∃ z, z = hr10.size := ⟨_, rfl⟩
            rw [← gr11] at Ar11 Dr11 str11
            have Fvr11 : Fld Z hr11 br11 "java/lang/String" "value" "[B" .null := Dr11 (Or.inr (hw _ (List.mem_of_getElem? (i := 5) rfl))) (ty := (.array .byte)) (by decide)
            have Fcr11 : Fld Z hr11 br11 "java/lang/String" "coder" "B" (.int (0 : Int32)) := Dr11 (Or.inr (hw _ (List.mem_of_getElem? (i := 6) rfl))) (ty := .byte) (by decide)
            have g_br11 : n0 ≤ br11 := Nat.le_trans Zr10 (Nat.le_of_eq gr11.symm)
            have Zr11 : n0 ≤ hr11.size := Nat.le_trans Zr10 Er11.1
            have Or11 := Or10.ext Er11
            have Sfr11 := Safe.ext Er11 Gr10 (Safe.new (Nat.le_of_eq gr11.symm))
            have Gr11 := Gr10.ext Er11
            obtain ⟨_, _, ⟨Tr12, Lr12, kr12, nr12⟩, -, Xr12, ⟨Lcr12, hQr12, lr12, yr12, zr12⟩, str12⟩ := Xr11.specialBack hx (y := (⟨"java/lang/String", "<init>", "([C)V"⟩ : MethodName)) rfl hown (mvT hZ (hw _ (List.mem_of_getElem? (i := 39) rfl))) (mvT hZ (hw _ (List.mem_of_getElem? (i := 40) rfl))) (mvT hZ (hw _ (List.mem_of_getElem? (i := 41) rfl))) (by decide) (StrChars.Road.backV (W := 1) hZ hws (kI := 4) (hw _ (List.mem_of_getElem? (i := 3) rfl)) (cs := cs) (bs := (cs.map (fun c => c.toInt8.toInt32))) (n := 8) g_br11 Zr11 Ar11 Fvr11 Fcr11 (Vcs.ext Er11) (S_C.ext (own_oldE hZh Or11)) hC hl rfl (by decide) (by decide) hp rfl (by decide) (by decide)) (g := (mkF m 160 #[.val (.int p0), .val (.int p1), .val (.int p2), .val (.int p3), .val (.int ((p2 &&& (255 : Int32)).toUInt32.toUInt16.toUInt32.toInt32)), .val (.int ((p3 &&& (255 : Int32)).toUInt32.toUInt16.toUInt32.toInt32)), .val (.int (f_first (p1 &&& (1 : Int32)))), .val (.int ((p0 &&& (2147483647 : Int32)) % (10 : Int32))), .unset, .val (.ref br1)] [(.ref br1), (.ref br11), (.ref br11)])) rfl (by rw [hml]; rfl) (Steps.refl _) (a := br11) (argsL := [(.ref br1)]) (rest := [(.ref br11)]) (lenOf pd_law_2 rfl) rfl (by show 2 * 0 + _ ≤ _; exact Nat.le_of_eq rfl) (hb hby at_160) (fun _ _ => ⟨rfl, er11, (by decide : 2 + 1 ≤ _), (by decide : 12 + 8 ≤ _)⟩)
            dsimp only [Pt.U, Pt.locs, Pt.cells, Pt.slots] at Xr12 lr12 yr12 zr12 str12 hQr12
            subst lr12 yr12 zr12
            obtain ⟨rfl, Nr12q, Kr12, EN, CN, tN, kN, u1, u2, u3, VN, KN⟩ := hQr12
            have Nr12 := Fr.app Nr10 Nr12q
            obtain ⟨Lpr12, Xr12, Nr12⟩ := own_pack Xr12 Nr12
            have Or12 := Or11.keep Kr12 (allS g_br11 all0)
            have Zr12 : n0 ≤ Tr12.heap.size := Nat.le_trans Zr11 Kr12.1
            have Gr12 := Gr11.keep Kr12 (allS Sfr11 all0)
            have hlb : (cs.map (fun c => c.toInt8.toInt32)).length = 8 := by rw [List.length_map]; exact hl
            have KN' : Arv Z Tr12.heap tN kN .byte (Int32.ofNat (cs.map (fun c => c.toInt8.toInt32)).length) ((cs.map (fun c => c.toInt8.toInt32)).map Value.int) (.int (0 : Int32)) := by rw [hlb]; exact KN
            have OE := own_oldE hZh Or12
            have S_C' := S_C.ext OE
            have S_L' := S_L.ext OE
            have S_I' := S_I.ext OE
            have W_L' := W_L.ext OE
            have W_I' := W_I.ext OE
            obtain ⟨t, hst, hrun, hended, L, NL, hEnd⟩ := own_end (s := s) (vm0 := s.vm) (.val (.int p0)) (.val (.int p1)) (.val (.int p2)) (.val (.int p3)) (.val (.int ((p2 &&& (255 : Int32)).toUInt32.toUInt16.toUInt32.toInt32))) (.val (.int ((p3 &&& (255 : Int32)).toUInt32.toUInt16.toUInt32.toInt32))) (.val (.int (f_first (p1 &&& (1 : Int32))))) (.val (.int ((p0 &&& (2147483647 : Int32)) % (10 : Int32)))) (.val (.ref br1)) (One.val rfl) br11 tN kN (cs.map (fun c => c.toInt8.toInt32)) wL wI iC (Xr12.more (by decide) (by decide)) hx Bd.returns Bd.notSynchronized hZ hw hby hml hown rfl hS0 (Nat.le_trans (Nat.le_of_eq hn0.symm) Zr12) Nr12 Zr12 wStr hEW Gr12 S_L' S_I' W_L' W_I' S_C' hC (by rw [hlb]; decide) EN CN VN KN'
            refine ⟨t, _, pre0 _ ?_, hrun, hended, _, L, rfl, ⟨rfl, NL⟩, hEnd⟩
            show Steps p.tables e below (s₁.setTop (mkF m 0 #[.val (.int p0), .val (.int p1), .val (.int p2), .val (.int p3), .unset, .unset, .unset, .unset, .unset, .unset] [])) _
            refine XS.iloadN X0.here hx rfl (hb hby at_0) rfl ?_
            show Steps p.tables e below (s₁.setTop (mkF m 1 #[.val (.int p0), .val (.int p1), .val (.int p2), .val (.int p3), .unset, .unset, .unset, .unset, .unset, .unset] [(.int p2)])) _
            refine XS.sipush X0.here hx rfl (hb hby at_1) ?_
            show Steps p.tables e below (s₁.setTop (mkF m 4 #[.val (.int p0), .val (.int p1), .val (.int p2), .val (.int p3), .unset, .unset, .unset, .unset, .unset, .unset] [(.int (255 : Int32)), (.int p2)])) _
            refine XS.iand X0.here hx rfl (hb hby at_4) rfl ?_
            show Steps p.tables e below (s₁.setTop (mkF m 5 #[.val (.int p0), .val (.int p1), .val (.int p2), .val (.int p3), .unset, .unset, .unset, .unset, .unset, .unset] [(.int (p2 &&& (255 : Int32)))])) _
            refine XS.i2c X0.here hx rfl (hb hby at_5) rfl ?_
            show Steps p.tables e below (s₁.setTop (mkF m 6 #[.val (.int p0), .val (.int p1), .val (.int p2), .val (.int p3), .unset, .unset, .unset, .unset, .unset, .unset] [(.int ((p2 &&& (255 : Int32)).toUInt32.toUInt16.toUInt32.toInt32))])) _
            refine XS.istore X0.here hx rfl (hb hby at_6) rfl (l' := #[.val (.int p0), .val (.int p1), .val (.int p2), .val (.int p3), .val (.int ((p2 &&& (255 : Int32)).toUInt32.toUInt16.toUInt32.toInt32)), .unset, .unset, .unset, .unset, .unset]) rfl ?_
            show Steps p.tables e below (s₁.setTop (mkF m 8 #[.val (.int p0), .val (.int p1), .val (.int p2), .val (.int p3), .val (.int ((p2 &&& (255 : Int32)).toUInt32.toUInt16.toUInt32.toInt32)), .unset, .unset, .unset, .unset, .unset] [])) _
            refine XS.iloadN X0.here hx rfl (hb hby at_8) rfl ?_
            show Steps p.tables e below (s₁.setTop (mkF m 9 #[.val (.int p0), .val (.int p1), .val (.int p2), .val (.int p3), .val (.int ((p2 &&& (255 : Int32)).toUInt32.toUInt16.toUInt32.toInt32)), .unset, .unset, .unset, .unset, .unset] [(.int p3)])) _
            refine XS.sipush X0.here hx rfl (hb hby at_9) ?_
            show Steps p.tables e below (s₁.setTop (mkF m 12 #[.val (.int p0), .val (.int p1), .val (.int p2), .val (.int p3), .val (.int ((p2 &&& (255 : Int32)).toUInt32.toUInt16.toUInt32.toInt32)), .unset, .unset, .unset, .unset, .unset] [(.int (255 : Int32)), (.int p3)])) _
            refine XS.iand X0.here hx rfl (hb hby at_12) rfl ?_
            show Steps p.tables e below (s₁.setTop (mkF m 13 #[.val (.int p0), .val (.int p1), .val (.int p2), .val (.int p3), .val (.int ((p2 &&& (255 : Int32)).toUInt32.toUInt16.toUInt32.toInt32)), .unset, .unset, .unset, .unset, .unset] [(.int (p3 &&& (255 : Int32)))])) _
            refine XS.i2c X0.here hx rfl (hb hby at_13) rfl ?_
            show Steps p.tables e below (s₁.setTop (mkF m 14 #[.val (.int p0), .val (.int p1), .val (.int p2), .val (.int p3), .val (.int ((p2 &&& (255 : Int32)).toUInt32.toUInt16.toUInt32.toInt32)), .unset, .unset, .unset, .unset, .unset] [(.int ((p3 &&& (255 : Int32)).toUInt32.toUInt16.toUInt32.toInt32))])) _
            refine XS.istore X0.here hx rfl (hb hby at_14) rfl (l' := #[.val (.int p0), .val (.int p1), .val (.int p2), .val (.int p3), .val (.int ((p2 &&& (255 : Int32)).toUInt32.toUInt16.toUInt32.toInt32)), .val (.int ((p3 &&& (255 : Int32)).toUInt32.toUInt16.toUInt32.toInt32)), .unset, .unset, .unset, .unset]) rfl ?_
            show Steps p.tables e below (s₁.setTop (mkF m 16 #[.val (.int p0), .val (.int p1), .val (.int p2), .val (.int p3), .val (.int ((p2 &&& (255 : Int32)).toUInt32.toUInt16.toUInt32.toInt32)), .val (.int ((p3 &&& (255 : Int32)).toUInt32.toUInt16.toUInt32.toInt32)), .unset, .unset, .unset, .unset] [])) _
            refine XS.iloadN X0.here hx rfl (hb hby at_16) rfl ?_
            show Steps p.tables e below (s₁.setTop (mkF m 17 #[.val (.int p0), .val (.int p1), .val (.int p2), .val (.int p3), .val (.int ((p2 &&& (255 : Int32)).toUInt32.toUInt16.toUInt32.toInt32)), .val (.int ((p3 &&& (255 : Int32)).toUInt32.toUInt16.toUInt32.toInt32)), .unset, .unset, .unset, .unset] [(.int p1)])) _
            refine XS.iconst X0.here hx rfl (hb hby at_17) ?_
            show Steps p.tables e below (s₁.setTop (mkF m 18 #[.val (.int p0), .val (.int p1), .val (.int p2), .val (.int p3), .val (.int ((p2 &&& (255 : Int32)).toUInt32.toUInt16.toUInt32.toInt32)), .val (.int ((p3 &&& (255 : Int32)).toUInt32.toUInt16.toUInt32.toInt32)), .unset, .unset, .unset, .unset] [(.int (1 : Int32)), (.int p1)])) _
            refine XS.iand X0.here hx rfl (hb hby at_18) rfl ?_
            have key : Steps p.tables e below (s₁.setTop (mkF m 27 #[.val (.int p0), .val (.int p1), .val (.int p2), .val (.int p3), .val (.int ((p2 &&& (255 : Int32)).toUInt32.toUInt16.toUInt32.toInt32)), .val (.int ((p3 &&& (255 : Int32)).toUInt32.toUInt16.toUInt32.toInt32)), .unset, .unset, .unset, .unset] [(.int (f_first (p1 &&& (1 : Int32))))])) t := by
              show Steps p.tables e below (s₁.setTop (mkF m 27 #[.val (.int p0), .val (.int p1), .val (.int p2), .val (.int p3), .val (.int ((p2 &&& (255 : Int32)).toUInt32.toUInt16.toUInt32.toInt32)), .val (.int ((p3 &&& (255 : Int32)).toUInt32.toUInt16.toUInt32.toInt32)), .unset, .unset, .unset, .unset] [(.int (f_first (p1 &&& (1 : Int32))))])) _
              refine XS.istore X0.here hx rfl (hb hby at_27) rfl (l' := #[.val (.int p0), .val (.int p1), .val (.int p2), .val (.int p3), .val (.int ((p2 &&& (255 : Int32)).toUInt32.toUInt16.toUInt32.toInt32)), .val (.int ((p3 &&& (255 : Int32)).toUInt32.toUInt16.toUInt32.toInt32)), .val (.int (f_first (p1 &&& (1 : Int32)))), .unset, .unset, .unset]) rfl ?_
              show Steps p.tables e below (s₁.setTop (mkF m 29 #[.val (.int p0), .val (.int p1), .val (.int p2), .val (.int p3), .val (.int ((p2 &&& (255 : Int32)).toUInt32.toUInt16.toUInt32.toInt32)), .val (.int ((p3 &&& (255 : Int32)).toUInt32.toUInt16.toUInt32.toInt32)), .val (.int (f_first (p1 &&& (1 : Int32)))), .unset, .unset, .unset] [])) _
              refine XS.iloadN X0.here hx rfl (hb hby at_29) rfl ?_
              show Steps p.tables e below (s₁.setTop (mkF m 30 #[.val (.int p0), .val (.int p1), .val (.int p2), .val (.int p3), .val (.int ((p2 &&& (255 : Int32)).toUInt32.toUInt16.toUInt32.toInt32)), .val (.int ((p3 &&& (255 : Int32)).toUInt32.toUInt16.toUInt32.toInt32)), .val (.int (f_first (p1 &&& (1 : Int32)))), .unset, .unset, .unset] [(.int p0)])) _
              refine X0.ldcInt hx hown (mvT hZ (hw _ (List.mem_of_getElem? (i := 0) rfl))) (g := (mkF m 30 #[.val (.int p0), .val (.int p1), .val (.int p2), .val (.int p3), .val (.int ((p2 &&& (255 : Int32)).toUInt32.toUInt16.toUInt32.toInt32)), .val (.int ((p3 &&& (255 : Int32)).toUInt32.toUInt16.toUInt32.toInt32)), .val (.int (f_first (p1 &&& (1 : Int32)))), .unset, .unset, .unset] [(.int p0)])) rfl (hb hby at_30) _ ?_
              show Steps p.tables e below (s₁.setTop (mkF m 32 #[.val (.int p0), .val (.int p1), .val (.int p2), .val (.int p3), .val (.int ((p2 &&& (255 : Int32)).toUInt32.toUInt16.toUInt32.toInt32)), .val (.int ((p3 &&& (255 : Int32)).toUInt32.toUInt16.toUInt32.toInt32)), .val (.int (f_first (p1 &&& (1 : Int32)))), .unset, .unset, .unset] [(.int (2147483647 : Int32)), (.int p0)])) _
              refine XS.iand X0.here hx rfl (hb hby at_32) rfl ?_
              show Steps p.tables e below (s₁.setTop (mkF m 33 #[.val (.int p0), .val (.int p1), .val (.int p2), .val (.int p3), .val (.int ((p2 &&& (255 : Int32)).toUInt32.toUInt16.toUInt32.toInt32)), .val (.int ((p3 &&& (255 : Int32)).toUInt32.toUInt16.toUInt32.toInt32)), .val (.int (f_first (p1 &&& (1 : Int32)))), .unset, .unset, .unset] [(.int (p0 &&& (2147483647 : Int32)))])) _
              refine XS.bipush X0.here hx rfl (hb hby at_33) ?_
              show Steps p.tables e below (s₁.setTop (mkF m 35 #[.val (.int p0), .val (.int p1), .val (.int p2), .val (.int p3), .val (.int ((p2 &&& (255 : Int32)).toUInt32.toUInt16.toUInt32.toInt32)), .val (.int ((p3 &&& (255 : Int32)).toUInt32.toUInt16.toUInt32.toInt32)), .val (.int (f_first (p1 &&& (1 : Int32)))), .unset, .unset, .unset] [(.int (10 : Int32)), (.int (p0 &&& (2147483647 : Int32)))])) _
              refine Jvm.RoadKit.iremM X0 hx rfl (hb hby at_35) rfl (by decide) ?_
              show Steps p.tables e below (s₁.setTop (mkF m 36 #[.val (.int p0), .val (.int p1), .val (.int p2), .val (.int p3), .val (.int ((p2 &&& (255 : Int32)).toUInt32.toUInt16.toUInt32.toInt32)), .val (.int ((p3 &&& (255 : Int32)).toUInt32.toUInt16.toUInt32.toInt32)), .val (.int (f_first (p1 &&& (1 : Int32)))), .unset, .unset, .unset] [(.int ((p0 &&& (2147483647 : Int32)) % (10 : Int32)))])) _
              refine XS.istore X0.here hx rfl (hb hby at_36) rfl (l' := #[.val (.int p0), .val (.int p1), .val (.int p2), .val (.int p3), .val (.int ((p2 &&& (255 : Int32)).toUInt32.toUInt16.toUInt32.toInt32)), .val (.int ((p3 &&& (255 : Int32)).toUInt32.toUInt16.toUInt32.toInt32)), .val (.int (f_first (p1 &&& (1 : Int32)))), .val (.int ((p0 &&& (2147483647 : Int32)) % (10 : Int32))), .unset, .unset]) rfl ?_
              show Steps p.tables e below (s₁.setTop (mkF m 38 #[.val (.int p0), .val (.int p1), .val (.int p2), .val (.int p3), .val (.int ((p2 &&& (255 : Int32)).toUInt32.toUInt16.toUInt32.toInt32)), .val (.int ((p3 &&& (255 : Int32)).toUInt32.toUInt16.toUInt32.toInt32)), .val (.int (f_first (p1 &&& (1 : Int32)))), .val (.int ((p0 &&& (2147483647 : Int32)) % (10 : Int32))), .unset, .unset] [])) _
              refine XS.iload X0.here hx rfl (hb hby at_38) rfl ?_
              show Steps p.tables e below (s₁.setTop (mkF m 40 #[.val (.int p0), .val (.int p1), .val (.int p2), .val (.int p3), .val (.int ((p2 &&& (255 : Int32)).toUInt32.toUInt16.toUInt32.toInt32)), .val (.int ((p3 &&& (255 : Int32)).toUInt32.toUInt16.toUInt32.toInt32)), .val (.int (f_first (p1 &&& (1 : Int32)))), .val (.int ((p0 &&& (2147483647 : Int32)) % (10 : Int32))), .unset, .unset] [(.int ((p0 &&& (2147483647 : Int32)) % (10 : Int32)))])) _
              refine XS.ifYes X0.here hx rfl (pc0 := 40) (pc' := 50) rfl (hb hby at_40) rfl ((if0 _ _).trans (feq hcase0).2) (by decide) (by decide) ?_
              show Steps p.tables e below (s₁.setTop (mkF m 50 #[.val (.int p0), .val (.int p1), .val (.int p2), .val (.int p3), .val (.int ((p2 &&& (255 : Int32)).toUInt32.toUInt16.toUInt32.toInt32)), .val (.int ((p3 &&& (255 : Int32)).toUInt32.toUInt16.toUInt32.toInt32)), .val (.int (f_first (p1 &&& (1 : Int32)))), .val (.int ((p0 &&& (2147483647 : Int32)) % (10 : Int32))), .unset, .unset] [])) _
              refine XS.iload X0.here hx rfl (hb hby at_50) rfl ?_
              show Steps p.tables e below (s₁.setTop (mkF m 52 #[.val (.int p0), .val (.int p1), .val (.int p2), .val (.int p3), .val (.int ((p2 &&& (255 : Int32)).toUInt32.toUInt16.toUInt32.toInt32)), .val (.int ((p3 &&& (255 : Int32)).toUInt32.toUInt16.toUInt32.toInt32)), .val (.int (f_first (p1 &&& (1 : Int32)))), .val (.int ((p0 &&& (2147483647 : Int32)) % (10 : Int32))), .unset, .unset] [(.int ((p0 &&& (2147483647 : Int32)) % (10 : Int32)))])) _
              refine XS.iconst X0.here hx rfl (hb hby at_52) ?_
              show Steps p.tables e below (s₁.setTop (mkF m 53 #[.val (.int p0), .val (.int p1), .val (.int p2), .val (.int p3), .val (.int ((p2 &&& (255 : Int32)).toUInt32.toUInt16.toUInt32.toInt32)), .val (.int ((p3 &&& (255 : Int32)).toUInt32.toUInt16.toUInt32.toInt32)), .val (.int (f_first (p1 &&& (1 : Int32)))), .val (.int ((p0 &&& (2147483647 : Int32)) % (10 : Int32))), .unset, .unset] [(.int (1 : Int32)), (.int ((p0 &&& (2147483647 : Int32)) % (10 : Int32)))])) _
              refine XS.icmpYes X0.here hx rfl (pc0 := 53) (pc' := 63) rfl (hb hby at_53) rfl (feq hcase1).2 (by decide) (by decide) ?_
              show Steps p.tables e below (s₁.setTop (mkF m 63 #[.val (.int p0), .val (.int p1), .val (.int p2), .val (.int p3), .val (.int ((p2 &&& (255 : Int32)).toUInt32.toUInt16.toUInt32.toInt32)), .val (.int ((p3 &&& (255 : Int32)).toUInt32.toUInt16.toUInt32.toInt32)), .val (.int (f_first (p1 &&& (1 : Int32)))), .val (.int ((p0 &&& (2147483647 : Int32)) % (10 : Int32))), .unset, .unset] [])) _
              refine XS.iload X0.here hx rfl (hb hby at_63) rfl ?_
              show Steps p.tables e below (s₁.setTop (mkF m 65 #[.val (.int p0), .val (.int p1), .val (.int p2), .val (.int p3), .val (.int ((p2 &&& (255 : Int32)).toUInt32.toUInt16.toUInt32.toInt32)), .val (.int ((p3 &&& (255 : Int32)).toUInt32.toUInt16.toUInt32.toInt32)), .val (.int (f_first (p1 &&& (1 : Int32)))), .val (.int ((p0 &&& (2147483647 : Int32)) % (10 : Int32))), .unset, .unset] [(.int ((p0 &&& (2147483647 : Int32)) % (10 : Int32)))])) _
              refine XS.iconst X0.here hx rfl (hb hby at_65) ?_
              show Steps p.tables e below (s₁.setTop (mkF m 66 #[.val (.int p0), .val (.int p1), .val (.int p2), .val (.int p3), .val (.int ((p2 &&& (255 : Int32)).toUInt32.toUInt16.toUInt32.toInt32)), .val (.int ((p3 &&& (255 : Int32)).toUInt32.toUInt16.toUInt32.toInt32)), .val (.int (f_first (p1 &&& (1 : Int32)))), .val (.int ((p0 &&& (2147483647 : Int32)) % (10 : Int32))), .unset, .unset] [(.int (2 : Int32)), (.int ((p0 &&& (2147483647 : Int32)) % (10 : Int32)))])) _
              refine XS.icmpYes X0.here hx rfl (pc0 := 66) (pc' := 76) rfl (hb hby at_66) rfl (feq hcase2).2 (by decide) (by decide) ?_
              show Steps p.tables e below (s₁.setTop (mkF m 76 #[.val (.int p0), .val (.int p1), .val (.int p2), .val (.int p3), .val (.int ((p2 &&& (255 : Int32)).toUInt32.toUInt16.toUInt32.toInt32)), .val (.int ((p3 &&& (255 : Int32)).toUInt32.toUInt16.toUInt32.toInt32)), .val (.int (f_first (p1 &&& (1 : Int32)))), .val (.int ((p0 &&& (2147483647 : Int32)) % (10 : Int32))), .unset, .unset] [])) _
              refine XS.iload X0.here hx rfl (hb hby at_76) rfl ?_
              show Steps p.tables e below (s₁.setTop (mkF m 78 #[.val (.int p0), .val (.int p1), .val (.int p2), .val (.int p3), .val (.int ((p2 &&& (255 : Int32)).toUInt32.toUInt16.toUInt32.toInt32)), .val (.int ((p3 &&& (255 : Int32)).toUInt32.toUInt16.toUInt32.toInt32)), .val (.int (f_first (p1 &&& (1 : Int32)))), .val (.int ((p0 &&& (2147483647 : Int32)) % (10 : Int32))), .unset, .unset] [(.int ((p0 &&& (2147483647 : Int32)) % (10 : Int32)))])) _
              refine XS.iconst X0.here hx rfl (hb hby at_78) ?_
              show Steps p.tables e below (s₁.setTop (mkF m 79 #[.val (.int p0), .val (.int p1), .val (.int p2), .val (.int p3), .val (.int ((p2 &&& (255 : Int32)).toUInt32.toUInt16.toUInt32.toInt32)), .val (.int ((p3 &&& (255 : Int32)).toUInt32.toUInt16.toUInt32.toInt32)), .val (.int (f_first (p1 &&& (1 : Int32)))), .val (.int ((p0 &&& (2147483647 : Int32)) % (10 : Int32))), .unset, .unset] [(.int (3 : Int32)), (.int ((p0 &&& (2147483647 : Int32)) % (10 : Int32)))])) _
              refine XS.icmpYes X0.here hx rfl (pc0 := 79) (pc' := 88) rfl (hb hby at_79) rfl (feq hcase3).2 (by decide) (by decide) ?_
              show Steps p.tables e below (s₁.setTop (mkF m 88 #[.val (.int p0), .val (.int p1), .val (.int p2), .val (.int p3), .val (.int ((p2 &&& (255 : Int32)).toUInt32.toUInt16.toUInt32.toInt32)), .val (.int ((p3 &&& (255 : Int32)).toUInt32.toUInt16.toUInt32.toInt32)), .val (.int (f_first (p1 &&& (1 : Int32)))), .val (.int ((p0 &&& (2147483647 : Int32)) % (10 : Int32))), .unset, .unset] [])) _
              refine XS.iload X0.here hx rfl (hb hby at_88) rfl ?_
              show Steps p.tables e below (s₁.setTop (mkF m 90 #[.val (.int p0), .val (.int p1), .val (.int p2), .val (.int p3), .val (.int ((p2 &&& (255 : Int32)).toUInt32.toUInt16.toUInt32.toInt32)), .val (.int ((p3 &&& (255 : Int32)).toUInt32.toUInt16.toUInt32.toInt32)), .val (.int (f_first (p1 &&& (1 : Int32)))), .val (.int ((p0 &&& (2147483647 : Int32)) % (10 : Int32))), .unset, .unset] [(.int ((p0 &&& (2147483647 : Int32)) % (10 : Int32)))])) _
              refine XS.iconst X0.here hx rfl (hb hby at_90) ?_
              show Steps p.tables e below (s₁.setTop (mkF m 91 #[.val (.int p0), .val (.int p1), .val (.int p2), .val (.int p3), .val (.int ((p2 &&& (255 : Int32)).toUInt32.toUInt16.toUInt32.toInt32)), .val (.int ((p3 &&& (255 : Int32)).toUInt32.toUInt16.toUInt32.toInt32)), .val (.int (f_first (p1 &&& (1 : Int32)))), .val (.int ((p0 &&& (2147483647 : Int32)) % (10 : Int32))), .unset, .unset] [(.int (4 : Int32)), (.int ((p0 &&& (2147483647 : Int32)) % (10 : Int32)))])) _
              refine XS.icmpNo X0.here hx rfl (hb hby at_91) rfl (teq hcase4).2 ?_
              show Steps p.tables e below (s₁.setTop (mkF m 94 #[.val (.int p0), .val (.int p1), .val (.int p2), .val (.int p3), .val (.int ((p2 &&& (255 : Int32)).toUInt32.toUInt16.toUInt32.toInt32)), .val (.int ((p3 &&& (255 : Int32)).toUInt32.toUInt16.toUInt32.toInt32)), .val (.int (f_first (p1 &&& (1 : Int32)))), .val (.int ((p0 &&& (2147483647 : Int32)) % (10 : Int32))), .unset, .unset] [])) _
              refine XS.bipush X0.here hx rfl (hb hby at_94) ?_
              show Steps p.tables e below (s₁.setTop (mkF m 96 #[.val (.int p0), .val (.int p1), .val (.int p2), .val (.int p3), .val (.int ((p2 &&& (255 : Int32)).toUInt32.toUInt16.toUInt32.toInt32)), .val (.int ((p3 &&& (255 : Int32)).toUInt32.toUInt16.toUInt32.toInt32)), .val (.int (f_first (p1 &&& (1 : Int32)))), .val (.int ((p0 &&& (2147483647 : Int32)) % (10 : Int32))), .unset, .unset] [(.int (8 : Int32))])) _
              refine str1 _ ?_
              show Steps p.tables e below (Tr1.setTop (mkF m 98 #[.val (.int p0), .val (.int p1), .val (.int p2), .val (.int p3), .val (.int ((p2 &&& (255 : Int32)).toUInt32.toUInt16.toUInt32.toInt32)), .val (.int ((p3 &&& (255 : Int32)).toUInt32.toUInt16.toUInt32.toInt32)), .val (.int (f_first (p1 &&& (1 : Int32)))), .val (.int ((p0 &&& (2147483647 : Int32)) % (10 : Int32))), .unset, .unset] [(.ref br1)])) _
              refine XS.dup Xr1.here hx rfl (hb hby at_98) rfl rfl ?_
              show Steps p.tables e below (Tr1.setTop (mkF m 99 #[.val (.int p0), .val (.int p1), .val (.int p2), .val (.int p3), .val (.int ((p2 &&& (255 : Int32)).toUInt32.toUInt16.toUInt32.toInt32)), .val (.int ((p3 &&& (255 : Int32)).toUInt32.toUInt16.toUInt32.toInt32)), .val (.int (f_first (p1 &&& (1 : Int32)))), .val (.int ((p0 &&& (2147483647 : Int32)) % (10 : Int32))), .unset, .unset] [(.ref br1), (.ref br1)])) _
              refine XS.iconst Xr1.here hx rfl (hb hby at_99) ?_
              show Steps p.tables e below (Tr1.setTop (mkF m 100 #[.val (.int p0), .val (.int p1), .val (.int p2), .val (.int p3), .val (.int ((p2 &&& (255 : Int32)).toUInt32.toUInt16.toUInt32.toInt32)), .val (.int ((p3 &&& (255 : Int32)).toUInt32.toUInt16.toUInt32.toInt32)), .val (.int (f_first (p1 &&& (1 : Int32)))), .val (.int ((p0 &&& (2147483647 : Int32)) % (10 : Int32))), .unset, .unset] [(.int (0 : Int32)), (.ref br1), (.ref br1)])) _
              refine XS.bipush Xr1.here hx rfl (hb hby at_100) ?_
              show Steps p.tables e below (Tr1.setTop (mkF m 102 #[.val (.int p0), .val (.int p1), .val (.int p2), .val (.int p3), .val (.int ((p2 &&& (255 : Int32)).toUInt32.toUInt16.toUInt32.toInt32)), .val (.int ((p3 &&& (255 : Int32)).toUInt32.toUInt16.toUInt32.toInt32)), .val (.int (f_first (p1 &&& (1 : Int32)))), .val (.int ((p0 &&& (2147483647 : Int32)) % (10 : Int32))), .unset, .unset] [(.int (108 : Int32)), (.int (0 : Int32)), (.ref br1), (.ref br1)])) _
              refine str2 _ ?_
              show Steps p.tables e below (Tr2.setTop (mkF m 103 #[.val (.int p0), .val (.int p1), .val (.int p2), .val (.int p3), .val (.int ((p2 &&& (255 : Int32)).toUInt32.toUInt16.toUInt32.toInt32)), .val (.int ((p3 &&& (255 : Int32)).toUInt32.toUInt16.toUInt32.toInt32)), .val (.int (f_first (p1 &&& (1 : Int32)))), .val (.int ((p0 &&& (2147483647 : Int32)) % (10 : Int32))), .unset, .unset] [(.ref br1)])) _
              refine XS.dup Xr2.here hx rfl (hb hby at_103) rfl rfl ?_
              show Steps p.tables e below (Tr2.setTop (mkF m 104 #[.val (.int p0), .val (.int p1), .val (.int p2), .val (.int p3), .val (.int ((p2 &&& (255 : Int32)).toUInt32.toUInt16.toUInt32.toInt32)), .val (.int ((p3 &&& (255 : Int32)).toUInt32.toUInt16.toUInt32.toInt32)), .val (.int (f_first (p1 &&& (1 : Int32)))), .val (.int ((p0 &&& (2147483647 : Int32)) % (10 : Int32))), .unset, .unset] [(.ref br1), (.ref br1)])) _
              refine XS.iconst Xr2.here hx rfl (hb hby at_104) ?_
              show Steps p.tables e below (Tr2.setTop (mkF m 105 #[.val (.int p0), .val (.int p1), .val (.int p2), .val (.int p3), .val (.int ((p2 &&& (255 : Int32)).toUInt32.toUInt16.toUInt32.toInt32)), .val (.int ((p3 &&& (255 : Int32)).toUInt32.toUInt16.toUInt32.toInt32)), .val (.int (f_first (p1 &&& (1 : Int32)))), .val (.int ((p0 &&& (2147483647 : Int32)) % (10 : Int32))), .unset, .unset] [(.int (1 : Int32)), (.ref br1), (.ref br1)])) _
              refine XS.bipush Xr2.here hx rfl (hb hby at_105) ?_
              show Steps p.tables e below (Tr2.setTop (mkF m 107 #[.val (.int p0), .val (.int p1), .val (.int p2), .val (.int p3), .val (.int ((p2 &&& (255 : Int32)).toUInt32.toUInt16.toUInt32.toInt32)), .val (.int ((p3 &&& (255 : Int32)).toUInt32.toUInt16.toUInt32.toInt32)), .val (.int (f_first (p1 &&& (1 : Int32)))), .val (.int ((p0 &&& (2147483647 : Int32)) % (10 : Int32))), .unset, .unset] [(.int (117 : Int32)), (.int (1 : Int32)), (.ref br1), (.ref br1)])) _
              refine str3 _ ?_
              show Steps p.tables e below (Tr3.setTop (mkF m 108 #[.val (.int p0), .val (.int p1), .val (.int p2), .val (.int p3), .val (.int ((p2 &&& (255 : Int32)).toUInt32.toUInt16.toUInt32.toInt32)), .val (.int ((p3 &&& (255 : Int32)).toUInt32.toUInt16.toUInt32.toInt32)), .val (.int (f_first (p1 &&& (1 : Int32)))), .val (.int ((p0 &&& (2147483647 : Int32)) % (10 : Int32))), .unset, .unset] [(.ref br1)])) _
              refine XS.dup Xr3.here hx rfl (hb hby at_108) rfl rfl ?_
              show Steps p.tables e below (Tr3.setTop (mkF m 109 #[.val (.int p0), .val (.int p1), .val (.int p2), .val (.int p3), .val (.int ((p2 &&& (255 : Int32)).toUInt32.toUInt16.toUInt32.toInt32)), .val (.int ((p3 &&& (255 : Int32)).toUInt32.toUInt16.toUInt32.toInt32)), .val (.int (f_first (p1 &&& (1 : Int32)))), .val (.int ((p0 &&& (2147483647 : Int32)) % (10 : Int32))), .unset, .unset] [(.ref br1), (.ref br1)])) _
              refine XS.iconst Xr3.here hx rfl (hb hby at_109) ?_
              show Steps p.tables e below (Tr3.setTop (mkF m 110 #[.val (.int p0), .val (.int p1), .val (.int p2), .val (.int p3), .val (.int ((p2 &&& (255 : Int32)).toUInt32.toUInt16.toUInt32.toInt32)), .val (.int ((p3 &&& (255 : Int32)).toUInt32.toUInt16.toUInt32.toInt32)), .val (.int (f_first (p1 &&& (1 : Int32)))), .val (.int ((p0 &&& (2147483647 : Int32)) % (10 : Int32))), .unset, .unset] [(.int (2 : Int32)), (.ref br1), (.ref br1)])) _
              refine XS.bipush Xr3.here hx rfl (hb hby at_110) ?_
              show Steps p.tables e below (Tr3.setTop (mkF m 112 #[.val (.int p0), .val (.int p1), .val (.int p2), .val (.int p3), .val (.int ((p2 &&& (255 : Int32)).toUInt32.toUInt16.toUInt32.toInt32)), .val (.int ((p3 &&& (255 : Int32)).toUInt32.toUInt16.toUInt32.toInt32)), .val (.int (f_first (p1 &&& (1 : Int32)))), .val (.int ((p0 &&& (2147483647 : Int32)) % (10 : Int32))), .unset, .unset] [(.int (109 : Int32)), (.int (2 : Int32)), (.ref br1), (.ref br1)])) _
              refine str4 _ ?_
              show Steps p.tables e below (Tr4.setTop (mkF m 113 #[.val (.int p0), .val (.int p1), .val (.int p2), .val (.int p3), .val (.int ((p2 &&& (255 : Int32)).toUInt32.toUInt16.toUInt32.toInt32)), .val (.int ((p3 &&& (255 : Int32)).toUInt32.toUInt16.toUInt32.toInt32)), .val (.int (f_first (p1 &&& (1 : Int32)))), .val (.int ((p0 &&& (2147483647 : Int32)) % (10 : Int32))), .unset, .unset] [(.ref br1)])) _
              refine XS.dup Xr4.here hx rfl (hb hby at_113) rfl rfl ?_
              show Steps p.tables e below (Tr4.setTop (mkF m 114 #[.val (.int p0), .val (.int p1), .val (.int p2), .val (.int p3), .val (.int ((p2 &&& (255 : Int32)).toUInt32.toUInt16.toUInt32.toInt32)), .val (.int ((p3 &&& (255 : Int32)).toUInt32.toUInt16.toUInt32.toInt32)), .val (.int (f_first (p1 &&& (1 : Int32)))), .val (.int ((p0 &&& (2147483647 : Int32)) % (10 : Int32))), .unset, .unset] [(.ref br1), (.ref br1)])) _
              refine XS.iconst Xr4.here hx rfl (hb hby at_114) ?_
              show Steps p.tables e below (Tr4.setTop (mkF m 115 #[.val (.int p0), .val (.int p1), .val (.int p2), .val (.int p3), .val (.int ((p2 &&& (255 : Int32)).toUInt32.toUInt16.toUInt32.toInt32)), .val (.int ((p3 &&& (255 : Int32)).toUInt32.toUInt16.toUInt32.toInt32)), .val (.int (f_first (p1 &&& (1 : Int32)))), .val (.int ((p0 &&& (2147483647 : Int32)) % (10 : Int32))), .unset, .unset] [(.int (3 : Int32)), (.ref br1), (.ref br1)])) _
              refine XS.bipush Xr4.here hx rfl (hb hby at_115) ?_
              show Steps p.tables e below (Tr4.setTop (mkF m 117 #[.val (.int p0), .val (.int p1), .val (.int p2), .val (.int p3), .val (.int ((p2 &&& (255 : Int32)).toUInt32.toUInt16.toUInt32.toInt32)), .val (.int ((p3 &&& (255 : Int32)).toUInt32.toUInt16.toUInt32.toInt32)), .val (.int (f_first (p1 &&& (1 : Int32)))), .val (.int ((p0 &&& (2147483647 : Int32)) % (10 : Int32))), .unset, .unset] [(.int (112 : Int32)), (.int (3 : Int32)), (.ref br1), (.ref br1)])) _
              refine str5 _ ?_
              show Steps p.tables e below (Tr5.setTop (mkF m 118 #[.val (.int p0), .val (.int p1), .val (.int p2), .val (.int p3), .val (.int ((p2 &&& (255 : Int32)).toUInt32.toUInt16.toUInt32.toInt32)), .val (.int ((p3 &&& (255 : Int32)).toUInt32.toUInt16.toUInt32.toInt32)), .val (.int (f_first (p1 &&& (1 : Int32)))), .val (.int ((p0 &&& (2147483647 : Int32)) % (10 : Int32))), .unset, .unset] [(.ref br1)])) _
              refine XS.dup Xr5.here hx rfl (hb hby at_118) rfl rfl ?_
              show Steps p.tables e below (Tr5.setTop (mkF m 119 #[.val (.int p0), .val (.int p1), .val (.int p2), .val (.int p3), .val (.int ((p2 &&& (255 : Int32)).toUInt32.toUInt16.toUInt32.toInt32)), .val (.int ((p3 &&& (255 : Int32)).toUInt32.toUInt16.toUInt32.toInt32)), .val (.int (f_first (p1 &&& (1 : Int32)))), .val (.int ((p0 &&& (2147483647 : Int32)) % (10 : Int32))), .unset, .unset] [(.ref br1), (.ref br1)])) _
              refine XS.iconst Xr5.here hx rfl (hb hby at_119) ?_
              show Steps p.tables e below (Tr5.setTop (mkF m 120 #[.val (.int p0), .val (.int p1), .val (.int p2), .val (.int p3), .val (.int ((p2 &&& (255 : Int32)).toUInt32.toUInt16.toUInt32.toInt32)), .val (.int ((p3 &&& (255 : Int32)).toUInt32.toUInt16.toUInt32.toInt32)), .val (.int (f_first (p1 &&& (1 : Int32)))), .val (.int ((p0 &&& (2147483647 : Int32)) % (10 : Int32))), .unset, .unset] [(.int (4 : Int32)), (.ref br1), (.ref br1)])) _
              refine XS.bipush Xr5.here hx rfl (hb hby at_120) ?_
              show Steps p.tables e below (Tr5.setTop (mkF m 122 #[.val (.int p0), .val (.int p1), .val (.int p2), .val (.int p3), .val (.int ((p2 &&& (255 : Int32)).toUInt32.toUInt16.toUInt32.toInt32)), .val (.int ((p3 &&& (255 : Int32)).toUInt32.toUInt16.toUInt32.toInt32)), .val (.int (f_first (p1 &&& (1 : Int32)))), .val (.int ((p0 &&& (2147483647 : Int32)) % (10 : Int32))), .unset, .unset] [(.int (45 : Int32)), (.int (4 : Int32)), (.ref br1), (.ref br1)])) _
              refine str6 _ ?_
              show Steps p.tables e below (Tr6.setTop (mkF m 123 #[.val (.int p0), .val (.int p1), .val (.int p2), .val (.int p3), .val (.int ((p2 &&& (255 : Int32)).toUInt32.toUInt16.toUInt32.toInt32)), .val (.int ((p3 &&& (255 : Int32)).toUInt32.toUInt16.toUInt32.toInt32)), .val (.int (f_first (p1 &&& (1 : Int32)))), .val (.int ((p0 &&& (2147483647 : Int32)) % (10 : Int32))), .unset, .unset] [(.ref br1)])) _
              refine XS.dup Xr6.here hx rfl (hb hby at_123) rfl rfl ?_
              show Steps p.tables e below (Tr6.setTop (mkF m 124 #[.val (.int p0), .val (.int p1), .val (.int p2), .val (.int p3), .val (.int ((p2 &&& (255 : Int32)).toUInt32.toUInt16.toUInt32.toInt32)), .val (.int ((p3 &&& (255 : Int32)).toUInt32.toUInt16.toUInt32.toInt32)), .val (.int (f_first (p1 &&& (1 : Int32)))), .val (.int ((p0 &&& (2147483647 : Int32)) % (10 : Int32))), .unset, .unset] [(.ref br1), (.ref br1)])) _
              refine XS.iconst Xr6.here hx rfl (hb hby at_124) ?_
              show Steps p.tables e below (Tr6.setTop (mkF m 125 #[.val (.int p0), .val (.int p1), .val (.int p2), .val (.int p3), .val (.int ((p2 &&& (255 : Int32)).toUInt32.toUInt16.toUInt32.toInt32)), .val (.int ((p3 &&& (255 : Int32)).toUInt32.toUInt16.toUInt32.toInt32)), .val (.int (f_first (p1 &&& (1 : Int32)))), .val (.int ((p0 &&& (2147483647 : Int32)) % (10 : Int32))), .unset, .unset] [(.int (5 : Int32)), (.ref br1), (.ref br1)])) _
              refine XS.bipush Xr6.here hx rfl (hb hby at_125) ?_
              show Steps p.tables e below (Tr6.setTop (mkF m 127 #[.val (.int p0), .val (.int p1), .val (.int p2), .val (.int p3), .val (.int ((p2 &&& (255 : Int32)).toUInt32.toUInt16.toUInt32.toInt32)), .val (.int ((p3 &&& (255 : Int32)).toUInt32.toUInt16.toUInt32.toInt32)), .val (.int (f_first (p1 &&& (1 : Int32)))), .val (.int ((p0 &&& (2147483647 : Int32)) % (10 : Int32))), .unset, .unset] [(.int (115 : Int32)), (.int (5 : Int32)), (.ref br1), (.ref br1)])) _
              refine str7 _ ?_
              show Steps p.tables e below (Tr7.setTop (mkF m 128 #[.val (.int p0), .val (.int p1), .val (.int p2), .val (.int p3), .val (.int ((p2 &&& (255 : Int32)).toUInt32.toUInt16.toUInt32.toInt32)), .val (.int ((p3 &&& (255 : Int32)).toUInt32.toUInt16.toUInt32.toInt32)), .val (.int (f_first (p1 &&& (1 : Int32)))), .val (.int ((p0 &&& (2147483647 : Int32)) % (10 : Int32))), .unset, .unset] [(.ref br1)])) _
              refine XS.dup Xr7.here hx rfl (hb hby at_128) rfl rfl ?_
              show Steps p.tables e below (Tr7.setTop (mkF m 129 #[.val (.int p0), .val (.int p1), .val (.int p2), .val (.int p3), .val (.int ((p2 &&& (255 : Int32)).toUInt32.toUInt16.toUInt32.toInt32)), .val (.int ((p3 &&& (255 : Int32)).toUInt32.toUInt16.toUInt32.toInt32)), .val (.int (f_first (p1 &&& (1 : Int32)))), .val (.int ((p0 &&& (2147483647 : Int32)) % (10 : Int32))), .unset, .unset] [(.ref br1), (.ref br1)])) _
              refine XS.bipush Xr7.here hx rfl (hb hby at_129) ?_
              show Steps p.tables e below (Tr7.setTop (mkF m 131 #[.val (.int p0), .val (.int p1), .val (.int p2), .val (.int p3), .val (.int ((p2 &&& (255 : Int32)).toUInt32.toUInt16.toUInt32.toInt32)), .val (.int ((p3 &&& (255 : Int32)).toUInt32.toUInt16.toUInt32.toInt32)), .val (.int (f_first (p1 &&& (1 : Int32)))), .val (.int ((p0 &&& (2147483647 : Int32)) % (10 : Int32))), .unset, .unset] [(.int (6 : Int32)), (.ref br1), (.ref br1)])) _
              refine XS.bipush Xr7.here hx rfl (hb hby at_131) ?_
              show Steps p.tables e below (Tr7.setTop (mkF m 133 #[.val (.int p0), .val (.int p1), .val (.int p2), .val (.int p3), .val (.int ((p2 &&& (255 : Int32)).toUInt32.toUInt16.toUInt32.toInt32)), .val (.int ((p3 &&& (255 : Int32)).toUInt32.toUInt16.toUInt32.toInt32)), .val (.int (f_first (p1 &&& (1 : Int32)))), .val (.int ((p0 &&& (2147483647 : Int32)) % (10 : Int32))), .unset, .unset] [(.int (117 : Int32)), (.int (6 : Int32)), (.ref br1), (.ref br1)])) _
              refine str8 _ ?_
              show Steps p.tables e below (Tr8.setTop (mkF m 134 #[.val (.int p0), .val (.int p1), .val (.int p2), .val (.int p3), .val (.int ((p2 &&& (255 : Int32)).toUInt32.toUInt16.toUInt32.toInt32)), .val (.int ((p3 &&& (255 : Int32)).toUInt32.toUInt16.toUInt32.toInt32)), .val (.int (f_first (p1 &&& (1 : Int32)))), .val (.int ((p0 &&& (2147483647 : Int32)) % (10 : Int32))), .unset, .unset] [(.ref br1)])) _
              refine XS.dup Xr8.here hx rfl (hb hby at_134) rfl rfl ?_
              show Steps p.tables e below (Tr8.setTop (mkF m 135 #[.val (.int p0), .val (.int p1), .val (.int p2), .val (.int p3), .val (.int ((p2 &&& (255 : Int32)).toUInt32.toUInt16.toUInt32.toInt32)), .val (.int ((p3 &&& (255 : Int32)).toUInt32.toUInt16.toUInt32.toInt32)), .val (.int (f_first (p1 &&& (1 : Int32)))), .val (.int ((p0 &&& (2147483647 : Int32)) % (10 : Int32))), .unset, .unset] [(.ref br1), (.ref br1)])) _
              refine XS.bipush Xr8.here hx rfl (hb hby at_135) ?_
              show Steps p.tables e below (Tr8.setTop (mkF m 137 #[.val (.int p0), .val (.int p1), .val (.int p2), .val (.int p3), .val (.int ((p2 &&& (255 : Int32)).toUInt32.toUInt16.toUInt32.toInt32)), .val (.int ((p3 &&& (255 : Int32)).toUInt32.toUInt16.toUInt32.toInt32)), .val (.int (f_first (p1 &&& (1 : Int32)))), .val (.int ((p0 &&& (2147483647 : Int32)) % (10 : Int32))), .unset, .unset] [(.int (7 : Int32)), (.ref br1), (.ref br1)])) _
              refine XS.bipush Xr8.here hx rfl (hb hby at_137) ?_
              show Steps p.tables e below (Tr8.setTop (mkF m 139 #[.val (.int p0), .val (.int p1), .val (.int p2), .val (.int p3), .val (.int ((p2 &&& (255 : Int32)).toUInt32.toUInt16.toUInt32.toInt32)), .val (.int ((p3 &&& (255 : Int32)).toUInt32.toUInt16.toUInt32.toInt32)), .val (.int (f_first (p1 &&& (1 : Int32)))), .val (.int ((p0 &&& (2147483647 : Int32)) % (10 : Int32))), .unset, .unset] [(.int (109 : Int32)), (.int (7 : Int32)), (.ref br1), (.ref br1)])) _
              refine str9 _ ?_
              show Steps p.tables e below (Tr9.setTop (mkF m 140 #[.val (.int p0), .val (.int p1), .val (.int p2), .val (.int p3), .val (.int ((p2 &&& (255 : Int32)).toUInt32.toUInt16.toUInt32.toInt32)), .val (.int ((p3 &&& (255 : Int32)).toUInt32.toUInt16.toUInt32.toInt32)), .val (.int (f_first (p1 &&& (1 : Int32)))), .val (.int ((p0 &&& (2147483647 : Int32)) % (10 : Int32))), .unset, .unset] [(.ref br1)])) _
              refine XS.astore Xr9.here hx rfl (hb hby at_140) rfl rfl (l' := #[.val (.int p0), .val (.int p1), .val (.int p2), .val (.int p3), .val (.int ((p2 &&& (255 : Int32)).toUInt32.toUInt16.toUInt32.toInt32)), .val (.int ((p3 &&& (255 : Int32)).toUInt32.toUInt16.toUInt32.toInt32)), .val (.int (f_first (p1 &&& (1 : Int32)))), .val (.int ((p0 &&& (2147483647 : Int32)) % (10 : Int32))), .unset, .val (.ref br1)]) rfl ?_
              show Steps p.tables e below (Tr9.setTop (mkF m 142 #[.val (.int p0), .val (.int p1), .val (.int p2), .val (.int p3), .val (.int ((p2 &&& (255 : Int32)).toUInt32.toUInt16.toUInt32.toInt32)), .val (.int ((p3 &&& (255 : Int32)).toUInt32.toUInt16.toUInt32.toInt32)), .val (.int (f_first (p1 &&& (1 : Int32)))), .val (.int ((p0 &&& (2147483647 : Int32)) % (10 : Int32))), .unset, .val (.ref br1)] [])) _
              refine XS.aload Xr9.here hx rfl (hb hby at_142) rfl rfl ?_
              show Steps p.tables e below (Tr9.setTop (mkF m 144 #[.val (.int p0), .val (.int p1), .val (.int p2), .val (.int p3), .val (.int ((p2 &&& (255 : Int32)).toUInt32.toUInt16.toUInt32.toInt32)), .val (.int ((p3 &&& (255 : Int32)).toUInt32.toUInt16.toUInt32.toInt32)), .val (.int (f_first (p1 &&& (1 : Int32)))), .val (.int ((p0 &&& (2147483647 : Int32)) % (10 : Int32))), .unset, .val (.ref br1)] [(.ref br1)])) _
              refine XS.iloadN Xr9.here hx rfl (hb hby at_144) rfl ?_
              show Steps p.tables e below (Tr9.setTop (mkF m 145 #[.val (.int p0), .val (.int p1), .val (.int p2), .val (.int p3), .val (.int ((p2 &&& (255 : Int32)).toUInt32.toUInt16.toUInt32.toInt32)), .val (.int ((p3 &&& (255 : Int32)).toUInt32.toUInt16.toUInt32.toInt32)), .val (.int (f_first (p1 &&& (1 : Int32)))), .val (.int ((p0 &&& (2147483647 : Int32)) % (10 : Int32))), .unset, .val (.ref br1)] [(.int p1), (.ref br1)])) _
              refine Xr9.ldcInt hx hown (mvT hZ (hw _ (List.mem_of_getElem? (i := 0) rfl))) (g := (mkF m 145 #[.val (.int p0), .val (.int p1), .val (.int p2), .val (.int p3), .val (.int ((p2 &&& (255 : Int32)).toUInt32.toUInt16.toUInt32.toInt32)), .val (.int ((p3 &&& (255 : Int32)).toUInt32.toUInt16.toUInt32.toInt32)), .val (.int (f_first (p1 &&& (1 : Int32)))), .val (.int ((p0 &&& (2147483647 : Int32)) % (10 : Int32))), .unset, .val (.ref br1)] [(.int p1), (.ref br1)])) rfl (hb hby at_145) _ ?_
              show Steps p.tables e below (Tr9.setTop (mkF m 147 #[.val (.int p0), .val (.int p1), .val (.int p2), .val (.int p3), .val (.int ((p2 &&& (255 : Int32)).toUInt32.toUInt16.toUInt32.toInt32)), .val (.int ((p3 &&& (255 : Int32)).toUInt32.toUInt16.toUInt32.toInt32)), .val (.int (f_first (p1 &&& (1 : Int32)))), .val (.int ((p0 &&& (2147483647 : Int32)) % (10 : Int32))), .unset, .val (.ref br1)] [(.int (2147483647 : Int32)), (.int p1), (.ref br1)])) _
              refine XS.iand Xr9.here hx rfl (hb hby at_147) rfl ?_
              show Steps p.tables e below (Tr9.setTop (mkF m 148 #[.val (.int p0), .val (.int p1), .val (.int p2), .val (.int p3), .val (.int ((p2 &&& (255 : Int32)).toUInt32.toUInt16.toUInt32.toInt32)), .val (.int ((p3 &&& (255 : Int32)).toUInt32.toUInt16.toUInt32.toInt32)), .val (.int (f_first (p1 &&& (1 : Int32)))), .val (.int ((p0 &&& (2147483647 : Int32)) % (10 : Int32))), .unset, .val (.ref br1)] [(.int (p1 &&& (2147483647 : Int32))), (.ref br1)])) _
              refine XS.bipush Xr9.here hx rfl (hb hby at_148) ?_
              show Steps p.tables e below (Tr9.setTop (mkF m 150 #[.val (.int p0), .val (.int p1), .val (.int p2), .val (.int p3), .val (.int ((p2 &&& (255 : Int32)).toUInt32.toUInt16.toUInt32.toInt32)), .val (.int ((p3 &&& (255 : Int32)).toUInt32.toUInt16.toUInt32.toInt32)), .val (.int (f_first (p1 &&& (1 : Int32)))), .val (.int ((p0 &&& (2147483647 : Int32)) % (10 : Int32))), .unset, .val (.ref br1)] [(.int (8 : Int32)), (.int (p1 &&& (2147483647 : Int32))), (.ref br1)])) _
              refine Jvm.RoadKit.iremM Xr9 hx rfl (hb hby at_150) rfl (by decide) ?_
              rw [ej]
              show Steps p.tables e below (Tr9.setTop (mkF m 151 #[.val (.int p0), .val (.int p1), .val (.int p2), .val (.int p3), .val (.int ((p2 &&& (255 : Int32)).toUInt32.toUInt16.toUInt32.toInt32)), .val (.int ((p3 &&& (255 : Int32)).toUInt32.toUInt16.toUInt32.toInt32)), .val (.int (f_first (p1 &&& (1 : Int32)))), .val (.int ((p0 &&& (2147483647 : Int32)) % (10 : Int32))), .unset, .val (.ref br1)] [(.int j), (.ref br1)])) _
              refine XS.iload Xr9.here hx rfl (hb hby at_151) rfl ?_
              show Steps p.tables e below (Tr9.setTop (mkF m 153 #[.val (.int p0), .val (.int p1), .val (.int p2), .val (.int p3), .val (.int ((p2 &&& (255 : Int32)).toUInt32.toUInt16.toUInt32.toInt32)), .val (.int ((p3 &&& (255 : Int32)).toUInt32.toUInt16.toUInt32.toInt32)), .val (.int (f_first (p1 &&& (1 : Int32)))), .val (.int ((p0 &&& (2147483647 : Int32)) % (10 : Int32))), .unset, .val (.ref br1)] [(.int ((p2 &&& (255 : Int32)).toUInt32.toUInt16.toUInt32.toInt32)), (.int j), (.ref br1)])) _
              refine str10 _ ?_
              show Steps p.tables e below (Tr10.setTop (mkF m 154 #[.val (.int p0), .val (.int p1), .val (.int p2), .val (.int p3), .val (.int ((p2 &&& (255 : Int32)).toUInt32.toUInt16.toUInt32.toInt32)), .val (.int ((p3 &&& (255 : Int32)).toUInt32.toUInt16.toUInt32.toInt32)), .val (.int (f_first (p1 &&& (1 : Int32)))), .val (.int ((p0 &&& (2147483647 : Int32)) % (10 : Int32))), .unset, .val (.ref br1)] [])) _
              refine str11 _ ?_
              show Steps p.tables e below (Tr11.setTop (mkF m 157 #[.val (.int p0), .val (.int p1), .val (.int p2), .val (.int p3), .val (.int ((p2 &&& (255 : Int32)).toUInt32.toUInt16.toUInt32.toInt32)), .val (.int ((p3 &&& (255 : Int32)).toUInt32.toUInt16.toUInt32.toInt32)), .val (.int (f_first (p1 &&& (1 : Int32)))), .val (.int ((p0 &&& (2147483647 : Int32)) % (10 : Int32))), .unset, .val (.ref br1)] [(.ref br11)])) _
              refine XS.dup Xr11.here hx rfl (hb hby at_157) rfl rfl ?_
              show Steps p.tables e below (Tr11.setTop (mkF m 158 #[.val (.int p0), .val (.int p1), .val (.int p2), .val (.int p3), .val (.int ((p2 &&& (255 : Int32)).toUInt32.toUInt16.toUInt32.toInt32)), .val (.int ((p3 &&& (255 : Int32)).toUInt32.toUInt16.toUInt32.toInt32)), .val (.int (f_first (p1 &&& (1 : Int32)))), .val (.int ((p0 &&& (2147483647 : Int32)) % (10 : Int32))), .unset, .val (.ref br1)] [(.ref br11), (.ref br11)])) _
              refine XS.aload Xr11.here hx rfl (hb hby at_158) rfl rfl ?_
              show Steps p.tables e below (Tr11.setTop (mkF m 160 #[.val (.int p0), .val (.int p1), .val (.int p2), .val (.int p3), .val (.int ((p2 &&& (255 : Int32)).toUInt32.toUInt16.toUInt32.toInt32)), .val (.int ((p3 &&& (255 : Int32)).toUInt32.toUInt16.toUInt32.toInt32)), .val (.int (f_first (p1 &&& (1 : Int32)))), .val (.int ((p0 &&& (2147483647 : Int32)) % (10 : Int32))), .unset, .val (.ref br1)] [(.ref br1), (.ref br11), (.ref br11)])) _
              refine str12.trans ?_
              show Steps p.tables e below (Tr12.setTop (mkF m 163 #[.val (.int p0), .val (.int p1), .val (.int p2), .val (.int p3), .val (.int ((p2 &&& (255 : Int32)).toUInt32.toUInt16.toUInt32.toInt32)), .val (.int ((p3 &&& (255 : Int32)).toUInt32.toUInt16.toUInt32.toInt32)), .val (.int (f_first (p1 &&& (1 : Int32)))), .val (.int ((p0 &&& (2147483647 : Int32)) % (10 : Int32))), .unset, .val (.ref br1)] [(.ref br11)])) _
              refine XS.astore Xr12.here hx rfl (hb hby at_163) rfl rfl (l' := #[.val (.int p0), .val (.int p1), .val (.int p2), .val (.int p3), .val (.int ((p2 &&& (255 : Int32)).toUInt32.toUInt16.toUInt32.toInt32)), .val (.int ((p3 &&& (255 : Int32)).toUInt32.toUInt16.toUInt32.toInt32)), .val (.int (f_first (p1 &&& (1 : Int32)))), .val (.int ((p0 &&& (2147483647 : Int32)) % (10 : Int32))), .val (.ref br11), .val (.ref br1)]) rfl ?_
              show Steps p.tables e below (Tr12.setTop (mkF m 165 #[.val (.int p0), .val (.int p1), .val (.int p2), .val (.int p3), .val (.int ((p2 &&& (255 : Int32)).toUInt32.toUInt16.toUInt32.toInt32)), .val (.int ((p3 &&& (255 : Int32)).toUInt32.toUInt16.toUInt32.toInt32)), .val (.int (f_first (p1 &&& (1 : Int32)))), .val (.int ((p0 &&& (2147483647 : Int32)) % (10 : Int32))), .val (.ref br11), .val (.ref br1)] [])) _
              refine XS.goto Xr12.here hx rfl (pc0 := 165) (pc' := 632) rfl (hb hby at_165) (by decide) (by decide) ?_
              show Steps p.tables e below (Tr12.setTop (mkF m 632 #[.val (.int p0), .val (.int p1), .val (.int p2), .val (.int p3), .val (.int ((p2 &&& (255 : Int32)).toUInt32.toUInt16.toUInt32.toInt32)), .val (.int ((p3 &&& (255 : Int32)).toUInt32.toUInt16.toUInt32.toInt32)), .val (.int (f_first (p1 &&& (1 : Int32)))), .val (.int ((p0 &&& (2147483647 : Int32)) % (10 : Int32))), .val (.ref br11), .val (.ref br1)] [])) _
              exact hst
            show Steps p.tables e below (s₁.setTop (mkF m 19 #[.val (.int p0), .val (.int p1), .val (.int p2), .val (.int p3), .val (.int ((p2 &&& (255 : Int32)).toUInt32.toUInt16.toUInt32.toInt32)), .val (.int ((p3 &&& (255 : Int32)).toUInt32.toUInt16.toUInt32.toInt32)), .unset, .unset, .unset, .unset] [(.int (p1 &&& (1 : Int32)))])) _
            by_cases hc19_0 : (p1 &&& (1 : Int32)) = (0 : Int32)
            · refine XS.ifNo X0.here hx rfl (hb hby at_19) rfl ((if0 _ _).trans (teq hc19_0).2) ?_
              show Steps p.tables e below (s₁.setTop (mkF m 22 #[.val (.int p0), .val (.int p1), .val (.int p2), .val (.int p3), .val (.int ((p2 &&& (255 : Int32)).toUInt32.toUInt16.toUInt32.toInt32)), .val (.int ((p3 &&& (255 : Int32)).toUInt32.toUInt16.toUInt32.toInt32)), .unset, .unset, .unset, .unset] [])) _
              refine XS.iconst X0.here hx rfl (hb hby at_22) ?_
              show Steps p.tables e below (s₁.setTop (mkF m 23 #[.val (.int p0), .val (.int p1), .val (.int p2), .val (.int p3), .val (.int ((p2 &&& (255 : Int32)).toUInt32.toUInt16.toUInt32.toInt32)), .val (.int ((p3 &&& (255 : Int32)).toUInt32.toUInt16.toUInt32.toInt32)), .unset, .unset, .unset, .unset] [(.int (1 : Int32))])) _
              refine XS.goto X0.here hx rfl (pc0 := 23) (pc' := 27) rfl (hb hby at_23) (by decide) (by decide) ?_
              show Steps p.tables e below (s₁.setTop (mkF m 27 #[.val (.int p0), .val (.int p1), .val (.int p2), .val (.int p3), .val (.int ((p2 &&& (255 : Int32)).toUInt32.toUInt16.toUInt32.toInt32)), .val (.int ((p3 &&& (255 : Int32)).toUInt32.toUInt16.toUInt32.toInt32)), .unset, .unset, .unset, .unset] [(.int (1 : Int32))])) _
              have hf : f_first (p1 &&& (1 : Int32)) = (1 : Int32) := by unfold f_first; rw [if_pos hc19_0]
              rw [hf] at key
              exact key
            · refine XS.ifYes X0.here hx rfl (pc0 := 19) (pc' := 26) rfl (hb hby at_19) rfl ((if0 _ _).trans (feq hc19_0).2) (by decide) (by decide) ?_
              show Steps p.tables e below (s₁.setTop (mkF m 26 #[.val (.int p0), .val (.int p1), .val (.int p2), .val (.int p3), .val (.int ((p2 &&& (255 : Int32)).toUInt32.toUInt16.toUInt32.toInt32)), .val (.int ((p3 &&& (255 : Int32)).toUInt32.toUInt16.toUInt32.toInt32)), .unset, .unset, .unset, .unset] [])) _
              refine XS.iconst X0.here hx rfl (hb hby at_26) ?_
              show Steps p.tables e below (s₁.setTop (mkF m 27 #[.val (.int p0), .val (.int p1), .val (.int p2), .val (.int p3), .val (.int ((p2 &&& (255 : Int32)).toUInt32.toUInt16.toUInt32.toInt32)), .val (.int ((p3 &&& (255 : Int32)).toUInt32.toUInt16.toUInt32.toInt32)), .unset, .unset, .unset, .unset] [(.int (0 : Int32))])) _
              have hf : f_first (p1 &&& (1 : Int32)) = (0 : Int32) := by unfold f_first; rw [if_neg hc19_0]
              rw [hf] at key
              exact key
          · by_cases hcase5 : ((p0 &&& (2147483647 : Int32)) % (10 : Int32)) = (5 : Int32)
            · have O0 : Old Z n0 h0 := ⟨by rw [← hU, hh, hn0], by rw [← hU, hh]; exact ⟨Nat.le_refl _, fun _ _ q => q⟩⟩
              obtain ⟨Tr1, hr1, kr1, Xr1, er1, Er1, Ar1, str1⟩ := newP X0 hx hZ (hw _ (List.mem_of_getElem? (i := 37) rfl)) e0 (g := (mkF m 176 #[.val (.int p0), .val (.int p1), .val (.int p2), .val (.int p3), .val (.int ((p2 &&& (255 : Int32)).toUInt32.toUInt16.toUInt32.toInt32)), .val (.int ((p3 &&& (255 : Int32)).toUInt32.toUInt16.toUInt32.toInt32)), .val (.int (f_first (p1 &&& (1 : Int32)))), .val (.int ((p0 &&& (2147483647 : Int32)) % (10 : Int32))), .unset, .unset] [(.int (12 : Int32))])) rfl (hb hby at_176) rfl (by decide) (cap := 12) (by decide) (by decide) (by decide) (by decide)
              obtain ⟨br1, gr1⟩ : ∃ z, z = h0.size := ⟨_, rfl⟩
              rw [← gr1] at Ar1 str1
              have Vr1 : Arv Z hr1 br1 kr1 .char (12 : Int32) [(.int (0 : Int32)), (.int (0 : Int32)), (.int (0 : Int32)), (.int (0 : Int32)), (.int (0 : Int32)), (.int (0 : Int32)), (.int (0 : Int32)), (.int (0 : Int32)), (.int (0 : Int32)), (.int (0 : Int32)), (.int (0 : Int32)), (.int (0 : Int32))] (.int (0 : Int32)) := (Arv.new Ar1 (by decide)).pad (pad_rep [] (.int (0 : Int32)) 12)
              have g_br1 : n0 ≤ br1 := Nat.le_trans Z0 (Nat.le_of_eq gr1.symm)
              have Zr1 : n0 ≤ hr1.size := Nat.le_trans Z0 Er1.1
              have Or1 := O0.ext Er1
              have G0 := hH0.ext Er1
              obtain ⟨cr2, Ar2, qr2, Sr2, Mr2, Hr2, Ur2⟩ := id Vr1
              obtain ⟨Tr2, hr2, Xr2, er2, Wr2, str2⟩ := stC Xr1 hx hZ er1 Ar2 (j := (0 : Int32)) (inb_of Sr2 ⟨(by decide : ¬ ((0 : Int32) < (0 : Int32))), (by decide : (0 : Int32) < (12 : Int32))⟩) (g := (mkF m 182 #[.val (.int p0), .val (.int p1), .val (.int p2), .val (.int p3), .val (.int ((p2 &&& (255 : Int32)).toUInt32.toUInt16.toUInt32.toInt32)), .val (.int ((p3 &&& (255 : Int32)).toUInt32.toUInt16.toUInt32.toInt32)), .val (.int (f_first (p1 &&& (1 : Int32)))), .val (.int ((p0 &&& (2147483647 : Int32)) % (10 : Int32))), .unset, .unset] [(.int (105 : Int32)), (.int (0 : Int32)), (.ref br1), (.ref br1)])) rfl rfl (hb hby at_182)
              have Nr2 := Fr.snoc Xr2 N0 g_br1
              have Vr2 : Arv Z hr2 br1 kr1 .char (12 : Int32) [(.int (nar .char (105 : Int32))), (.int (0 : Int32)), (.int (0 : Int32)), (.int (0 : Int32)), (.int (0 : Int32)), (.int (0 : Int32)), (.int (0 : Int32)), (.int (0 : Int32)), (.int (0 : Int32)), (.int (0 : Int32)), (.int (0 : Int32)), (.int (0 : Int32))] (.int (0 : Int32)) := Arv.set Ar2 qr2 Sr2 Mr2 Hr2 Ur2 (fits_nar_char _) Wr2 0 rfl (Nat.le_of_ble_eq_true rfl)
              have Zr2 : n0 ≤ hr2.size := Nat.le_trans Zr1 (Keep.of_wr Wr2).1
              obtain ⟨Lpr2, Xr2, Nr2⟩ := own_pack Xr2 Nr2
              have Or2 := Or1.wr Wr2 g_br1
              have Gr2 := G0.wr Wr2 (Safe.arr hZ.alike Ar2 (by decide))
              obtain ⟨cr3, Ar3, qr3, Sr3, Mr3, Hr3, Ur3⟩ := id Vr2
              obtain ⟨Tr3, hr3, Xr3, er3, Wr3, str3⟩ := stC Xr2 hx hZ er2 Ar3 (j := (1 : Int32)) (inb_of Sr3 ⟨(by decide : ¬ ((1 : Int32) < (0 : Int32))), (by decide : (1 : Int32) < (12 : Int32))⟩) (g := (mkF m 187 #[.val (.int p0), .val (.int p1), .val (.int p2), .val (.int p3), .val (.int ((p2 &&& (255 : Int32)).toUInt32.toUInt16.toUInt32.toInt32)), .val (.int ((p3 &&& (255 : Int32)).toUInt32.toUInt16.toUInt32.toInt32)), .val (.int (f_first (p1 &&& (1 : Int32)))), .val (.int ((p0 &&& (2147483647 : Int32)) % (10 : Int32))), .unset, .unset] [(.int (110 : Int32)), (.int (1 : Int32)), (.ref br1), (.ref br1)])) rfl rfl (hb hby at_187)
              have Nr3 := Fr.snoc Xr3 Nr2 g_br1
              have Vr3 : Arv Z hr3 br1 kr1 .char (12 : Int32) [(.int (nar .char (105 : Int32))), (.int (nar .char (110 : Int32))), (.int (0 : Int32)), (.int (0 : Int32)), (.int (0 : Int32)), (.int (0 : Int32)), (.int (0 : Int32)), (.int (0 : Int32)), (.int (0 : Int32)), (.int (0 : Int32)), (.int (0 : Int32)), (.int (0 : Int32))] (.int (0 : Int32)) := Arv.set Ar3 qr3 Sr3 Mr3 Hr3 Ur3 (fits_nar_char _) Wr3 1 rfl (Nat.le_of_ble_eq_true rfl)
              have Zr3 : n0 ≤ hr3.size := Nat.le_trans Zr2 (Keep.of_wr Wr3).1
              obtain ⟨Lpr3, Xr3, Nr3⟩ := own_pack Xr3 Nr3
              have Or3 := Or2.wr Wr3 g_br1
              have Gr3 := Gr2.wr Wr3 (Safe.arr hZ.alike Ar3 (by decide))
              obtain ⟨cr4, Ar4, qr4, Sr4, Mr4, Hr4, Ur4⟩ := id Vr3
              obtain ⟨Tr4, hr4, Xr4, er4, Wr4, str4⟩ := stC Xr3 hx hZ er3 Ar4 (j := (2 : Int32)) (inb_of Sr4 ⟨(by decide : ¬ ((2 : Int32) < (0 : Int32))), (by decide : (2 : Int32) < (12 : Int32))⟩) (g := (mkF m 192 #[.val (.int p0), .val (.int p1), .val (.int p2), .val (.int p3), .val (.int ((p2 &&& (255 : Int32)).toUInt32.toUInt16.toUInt32.toInt32)), .val (.int ((p3 &&& (255 : Int32)).toUInt32.toUInt16.toUInt32.toInt32)), .val (.int (f_first (p1 &&& (1 : Int32)))), .val (.int ((p0 &&& (2147483647 : Int32)) % (10 : Int32))), .unset, .unset] [(.int (115 : Int32)), (.int (2 : Int32)), (.ref br1), (.ref br1)])) rfl rfl (hb hby at_192)
              have Nr4 := Fr.snoc Xr4 Nr3 g_br1
              have Vr4 : Arv Z hr4 br1 kr1 .char (12 : Int32) [(.int (nar .char (105 : Int32))), (.int (nar .char (110 : Int32))), (.int (nar .char (115 : Int32))), (.int (0 : Int32)), (.int (0 : Int32)), (.int (0 : Int32)), (.int (0 : Int32)), (.int (0 : Int32)), (.int (0 : Int32)), (.int (0 : Int32)), (.int (0 : Int32)), (.int (0 : Int32))] (.int (0 : Int32)) := Arv.set Ar4 qr4 Sr4 Mr4 Hr4 Ur4 (fits_nar_char _) Wr4 2 rfl (Nat.le_of_ble_eq_true rfl)
              have Zr4 : n0 ≤ hr4.size := Nat.le_trans Zr3 (Keep.of_wr Wr4).1
              obtain ⟨Lpr4, Xr4, Nr4⟩ := own_pack Xr4 Nr4
              have Or4 := Or3.wr Wr4 g_br1
              have Gr4 := Gr3.wr Wr4 (Safe.arr hZ.alike Ar4 (by decide))
              obtain ⟨cr5, Ar5, qr5, Sr5, Mr5, Hr5, Ur5⟩ := id Vr4
              obtain ⟨Tr5, hr5, Xr5, er5, Wr5, str5⟩ := stC Xr4 hx hZ er4 Ar5 (j := (3 : Int32)) (inb_of Sr5 ⟨(by decide : ¬ ((3 : Int32) < (0 : Int32))), (by decide : (3 : Int32) < (12 : Int32))⟩) (g := (mkF m 197 #[.val (.int p0), .val (.int p1), .val (.int p2), .val (.int p3), .val (.int ((p2 &&& (255 : Int32)).toUInt32.toUInt16.toUInt32.toInt32)), .val (.int ((p3 &&& (255 : Int32)).toUInt32.toUInt16.toUInt32.toInt32)), .val (.int (f_first (p1 &&& (1 : Int32)))), .val (.int ((p0 &&& (2147483647 : Int32)) % (10 : Int32))), .unset, .unset] [(.int (116 : Int32)), (.int (3 : Int32)), (.ref br1), (.ref br1)])) rfl rfl (hb hby at_197)
              have Nr5 := Fr.snoc Xr5 Nr4 g_br1
              have Vr5 : Arv Z hr5 br1 kr1 .char (12 : Int32) [(.int (nar .char (105 : Int32))), (.int (nar .char (110 : Int32))), (.int (nar .char (115 : Int32))), (.int (nar .char (116 : Int32))), (.int (0 : Int32)), (.int (0 : Int32)), (.int (0 : Int32)), (.int (0 : Int32)), (.int (0 : Int32)), (.int (0 : Int32)), (.int (0 : Int32)), (.int (0 : Int32))] (.int (0 : Int32)) := Arv.set Ar5 qr5 Sr5 Mr5 Hr5 Ur5 (fits_nar_char _) Wr5 3 rfl (Nat.le_of_ble_eq_true rfl)
              have Zr5 : n0 ≤ hr5.size := Nat.le_trans Zr4 (Keep.of_wr Wr5).1
              obtain ⟨Lpr5, Xr5, Nr5⟩ := own_pack Xr5 Nr5
              have Or5 := Or4.wr Wr5 g_br1
              have Gr5 := Gr4.wr Wr5 (Safe.arr hZ.alike Ar5 (by decide))
              obtain ⟨cr6, Ar6, qr6, Sr6, Mr6, Hr6, Ur6⟩ := id Vr5
              obtain ⟨Tr6, hr6, Xr6, er6, Wr6, str6⟩ := stC Xr5 hx hZ er5 Ar6 (j := (4 : Int32)) (inb_of Sr6 ⟨(by decide : ¬ ((4 : Int32) < (0 : Int32))), (by decide : (4 : Int32) < (12 : Int32))⟩) (g := (mkF m 202 #[.val (.int p0), .val (.int p1), .val (.int p2), .val (.int p3), .val (.int ((p2 &&& (255 : Int32)).toUInt32.toUInt16.toUInt32.toInt32)), .val (.int ((p3 &&& (255 : Int32)).toUInt32.toUInt16.toUInt32.toInt32)), .val (.int (f_first (p1 &&& (1 : Int32)))), .val (.int ((p0 &&& (2147483647 : Int32)) % (10 : Int32))), .unset, .unset] [(.int (97 : Int32)), (.int (4 : Int32)), (.ref br1), (.ref br1)])) rfl rfl (hb hby at_202)
              have Nr6 := Fr.snoc Xr6 Nr5 g_br1
              have Vr6 : Arv Z hr6 br1 kr1 .char (12 : Int32) [(.int (nar .char (105 : Int32))), (.int (nar .char (110 : Int32))), (.int (nar .char (115 : Int32))), (.int (nar .char (116 : Int32))), (.int (nar .char (97 : Int32))), (.int (0 : Int32)), (.int (0 : Int32)), (.int (0 : Int32)), (.int (0 : Int32)), (.int (0 : Int32)), (.int (0 : Int32)), (.int (0 : Int32))] (.int (0 : Int32)) := Arv.set Ar6 qr6 Sr6 Mr6 Hr6 Ur6 (fits_nar_char _) Wr6 4 rfl (Nat.le_of_ble_eq_true rfl)
              have Zr6 : n0 ≤ hr6.size := Nat.le_trans Zr5 (Keep.of_wr Wr6).1
              obtain ⟨Lpr6, Xr6, Nr6⟩ := own_pack Xr6 Nr6
              have Or6 := Or5.wr Wr6 g_br1
              have Gr6 := Gr5.wr Wr6 (Safe.arr hZ.alike Ar6 (by decide))
              obtain ⟨cr7, Ar7, qr7, Sr7, Mr7, Hr7, Ur7⟩ := id Vr6
              obtain ⟨Tr7, hr7, Xr7, er7, Wr7, str7⟩ := stC Xr6 hx hZ er6 Ar7 (j := (5 : Int32)) (inb_of Sr7 ⟨(by decide : ¬ ((5 : Int32) < (0 : Int32))), (by decide : (5 : Int32) < (12 : Int32))⟩) (g := (mkF m 207 #[.val (.int p0), .val (.int p1), .val (.int p2), .val (.int p3), .val (.int ((p2 &&& (255 : Int32)).toUInt32.toUInt16.toUInt32.toInt32)), .val (.int ((p3 &&& (255 : Int32)).toUInt32.toUInt16.toUInt32.toInt32)), .val (.int (f_first (p1 &&& (1 : Int32)))), .val (.int ((p0 &&& (2147483647 : Int32)) % (10 : Int32))), .unset, .unset] [(.int (108 : Int32)), (.int (5 : Int32)), (.ref br1), (.ref br1)])) rfl rfl (hb hby at_207)
              have Nr7 := Fr.snoc Xr7 Nr6 g_br1
              have Vr7 : Arv Z hr7 br1 kr1 .char (12 : Int32) [(.int (nar .char (105 : Int32))), (.int (nar .char (110 : Int32))), (.int (nar .char (115 : Int32))), (.int (nar .char (116 : Int32))), (.int (nar .char (97 : Int32))), (.int (nar .char (108 : Int32))), (.int (0 : Int32)), (.int (0 : Int32)), (.int (0 : Int32)), (.int (0 : Int32)), (.int (0 : Int32)), (.int (0 : Int32))] (.int (0 : Int32)) := Arv.set Ar7 qr7 Sr7 Mr7 Hr7 Ur7 (fits_nar_char _) Wr7 5 rfl (Nat.le_of_ble_eq_true rfl)
              have Zr7 : n0 ≤ hr7.size := Nat.le_trans Zr6 (Keep.of_wr Wr7).1
              obtain ⟨Lpr7, Xr7, Nr7⟩ := own_pack Xr7 Nr7
              have Or7 := Or6.wr Wr7 g_br1
              have Gr7 := Gr6.wr Wr7 (Safe.arr hZ.alike Ar7 (by decide))
              obtain ⟨cr8, Ar8, qr8, Sr8, Mr8, Hr8, Ur8⟩ := id Vr7
              obtain ⟨Tr8, hr8, Xr8, er8, Wr8, str8⟩ := stC Xr7 hx hZ er7 Ar8 (j := (6 : Int32)) (inb_of Sr8 ⟨(by decide : ¬ ((6 : Int32) < (0 : Int32))), (by decide : (6 : Int32) < (12 : Int32))⟩) (g := (mkF m 213 #[.val (.int p0), .val (.int p1), .val (.int p2), .val (.int p3), .val (.int ((p2 &&& (255 : Int32)).toUInt32.toUInt16.toUInt32.toInt32)), .val (.int ((p3 &&& (255 : Int32)).toUInt32.toUInt16.toUInt32.toInt32)), .val (.int (f_first (p1 &&& (1 : Int32)))), .val (.int ((p0 &&& (2147483647 : Int32)) % (10 : Int32))), .unset, .unset] [(.int (108 : Int32)), (.int (6 : Int32)), (.ref br1), (.ref br1)])) rfl rfl (hb hby at_213)
              have Nr8 := Fr.snoc Xr8 Nr7 g_br1
              have Vr8 : Arv Z hr8 br1 kr1 .char (12 : Int32) [(.int (nar .char (105 : Int32))), (.int (nar .char (110 : Int32))), (.int (nar .char (115 : Int32))), (.int (nar .char (116 : Int32))), (.int (nar .char (97 : Int32))), (.int (nar .char (108 : Int32))), (.int (nar .char (108 : Int32))), (.int (0 : Int32)), (.int (0 : Int32)), (.int (0 : Int32)), (.int (0 : Int32)), (.int (0 : Int32))] (.int (0 : Int32)) := Arv.set Ar8 qr8 Sr8 Mr8 Hr8 Ur8 (fits_nar_char _) Wr8 6 rfl (Nat.le_of_ble_eq_true rfl)
              have Zr8 : n0 ≤ hr8.size := Nat.le_trans Zr7 (Keep.of_wr Wr8).1
              obtain ⟨Lpr8, Xr8, Nr8⟩ := own_pack Xr8 Nr8
              have Or8 := Or7.wr Wr8 g_br1
              have Gr8 := Gr7.wr Wr8 (Safe.arr hZ.alike Ar8 (by decide))
              obtain ⟨cr9, Ar9, qr9, Sr9, Mr9, Hr9, Ur9⟩ := id Vr8
              obtain ⟨Tr9, hr9, Xr9, er9, Wr9, str9⟩ := stC Xr8 hx hZ er8 Ar9 (j := (7 : Int32)) (inb_of Sr9 ⟨(by decide : ¬ ((7 : Int32) < (0 : Int32))), (by decide : (7 : Int32) < (12 : Int32))⟩) (g := (mkF m 219 #[.val (.int p0), .val (.int p1), .val (.int p2), .val (.int p3), .val (.int ((p2 &&& (255 : Int32)).toUInt32.toUInt16.toUInt32.toInt32)), .val (.int ((p3 &&& (255 : Int32)).toUInt32.toUInt16.toUInt32.toInt32)), .val (.int (f_first (p1 &&& (1 : Int32)))), .val (.int ((p0 &&& (2147483647 : Int32)) % (10 : Int32))), .unset, .unset] [(.int (109 : Int32)), (.int (7 : Int32)), (.ref br1), (.ref br1)])) rfl rfl (hb hby at_219)
              have Nr9 := Fr.snoc Xr9 Nr8 g_br1
              have Vr9 : Arv Z hr9 br1 kr1 .char (12 : Int32) [(.int (nar .char (105 : Int32))), (.int (nar .char (110 : Int32))), (.int (nar .char (115 : Int32))), (.int (nar .char (116 : Int32))), (.int (nar .char (97 : Int32))), (.int (nar .char (108 : Int32))), (.int (nar .char (108 : Int32))), (.int (nar .char (109 : Int32))), (.int (0 : Int32)), (.int (0 : Int32)), (.int (0 : Int32)), (.int (0 : Int32))] (.int (0 : Int32)) := Arv.set Ar9 qr9 Sr9 Mr9 Hr9 Ur9 (fits_nar_char _) Wr9 7 rfl (Nat.le_of_ble_eq_true rfl)
              have Zr9 : n0 ≤ hr9.size := Nat.le_trans Zr8 (Keep.of_wr Wr9).1
              obtain ⟨Lpr9, Xr9, Nr9⟩ := own_pack Xr9 Nr9
              have Or9 := Or8.wr Wr9 g_br1
              have Gr9 := Gr8.wr Wr9 (Safe.arr hZ.alike Ar9 (by decide))
              obtain ⟨cr10, Ar10, qr10, Sr10, Mr10, Hr10, Ur10⟩ := id Vr9
              obtain ⟨Tr10, hr10, Xr10, er10, Wr10, str10⟩ := stC Xr9 hx hZ er9 Ar10 (j := (8 : Int32)) (inb_of Sr10 ⟨(by decide : ¬ ((8 : Int32) < (0 : Int32))), (by decide : (8 : Int32) < (12 : Int32))⟩) (g := (mkF m 225 #[.val (.int p0), .val (.int p1), .val (.int p2), .val (.int p3), .val (.int ((p2 &&& (255 : Int32)).toUInt32.toUInt16.toUInt32.toInt32)), .val (.int ((p3 &&& (255 : Int32)).toUInt32.toUInt16.toUInt32.toInt32)), .val (.int (f_first (p1 &&& (1 : Int32)))), .val (.int ((p0 &&& (2147483647 : Int32)) % (10 : Int32))), .unset, .unset] [(.int (101 : Int32)), (.int (8 : Int32)), (.ref br1), (.ref br1)])) rfl rfl (hb hby at_225)
              have Nr10 := Fr.snoc Xr10 Nr9 g_br1
              have Vr10 : Arv Z hr10 br1 kr1 .char (12 : Int32) [(.int (nar .char (105 : Int32))), (.int (nar .char (110 : Int32))), (.int (nar .char (115 : Int32))), (.int (nar .char (116 : Int32))), (.int (nar .char (97 : Int32))), (.int (nar .char (108 : Int32))), (.int (nar .char (108 : Int32))), (.int (nar .char (109 : Int32))), (.int (nar .char (101 : Int32))), (.int (0 : Int32)), (.int (0 : Int32)), (.int (0 : Int32))] (.int (0 : Int32)) := Arv.set Ar10 qr10 Sr10 Mr10 Hr10 Ur10 (fits_nar_char _) Wr10 8 rfl (Nat.le_of_ble_eq_true rfl)
              have Zr10 : n0 ≤ hr10.size := Nat.le_trans Zr9 (Keep.of_wr Wr10).1
              obtain ⟨Lpr10, Xr10, Nr10⟩ := own_pack Xr10 Nr10
              have Or10 := Or9.wr Wr10 g_br1
              have Gr10 := Gr9.wr Wr10 (Safe.arr hZ.alike Ar10 (by decide))
              obtain ⟨cr11, Ar11, qr11, Sr11, Mr11, Hr11, Ur11⟩ := id Vr10
              obtain ⟨Tr11, hr11, Xr11, er11, Wr11, str11⟩ := stC Xr10 hx hZ er10 Ar11 (j := (9 : Int32)) (inb_of Sr11 ⟨(by decide : ¬ ((9 : Int32) < (0 : Int32))), (by decide : (9 : Int32) < (12 : Int32))⟩) (g := (mkF m 231 #[.val (.int p0), .val (.int p1), .val (.int p2), .val (.int p3), .val (.int ((p2 &&& (255 : Int32)).toUInt32.toUInt16.toUInt32.toInt32)), .val (.int ((p3 &&& (255 : Int32)).toUInt32.toUInt16.toUInt32.toInt32)), .val (.int (f_first (p1 &&& (1 : Int32)))), .val (.int ((p0 &&& (2147483647 : Int32)) % (10 : Int32))), .unset, .unset] [(.int (110 : Int32)), (.int (9 : Int32)), (.ref br1), (.ref br1)])) rfl rfl (hb hby at_231)
              have Nr11 := Fr.snoc Xr11 Nr10 g_br1
              have Vr11 : Arv Z hr11 br1 kr1 .char (12 : Int32) [(.int (nar .char (105 : Int32))), (.int (nar .char (110 : Int32))), (.int (nar .char (115 : Int32))), (.int (nar .char (116 : Int32))), (.int (nar .char (97 : Int32))), (.int (nar .char (108 : Int32))), (.int (nar .char (108 : Int32))), (.int (nar .char (109 : Int32))), (.int (nar .char (101 : Int32))), (.int (nar .char (110 : Int32))), (.int (0 : Int32)), (.int (0 : Int32))] (.int (0 : Int32)) := Arv.set Ar11 qr11 Sr11 Mr11 Hr11 Ur11 (fits_nar_char _) Wr11 9 rfl (Nat.le_of_ble_eq_true rfl)
              have Zr11 : n0 ≤ hr11.size := Nat.le_trans Zr10 (Keep.of_wr Wr11).1
              obtain ⟨Lpr11, Xr11, Nr11⟩ := own_pack Xr11 Nr11
              have Or11 := Or10.wr Wr11 g_br1
              have Gr11 := Gr10.wr Wr11 (Safe.arr hZ.alike Ar11 (by decide))
              obtain ⟨cr12, Ar12, qr12, Sr12, Mr12, Hr12, Ur12⟩ := id Vr11
              obtain ⟨Tr12, hr12, Xr12, er12, Wr12, str12⟩ := stC Xr11 hx hZ er11 Ar12 (j := (10 : Int32)) (inb_of Sr12 ⟨(by decide : ¬ ((10 : Int32) < (0 : Int32))), (by decide : (10 : Int32) < (12 : Int32))⟩) (g := (mkF m 237 #[.val (.int p0), .val (.int p1), .val (.int p2), .val (.int p3), .val (.int ((p2 &&& (255 : Int32)).toUInt32.toUInt16.toUInt32.toInt32)), .val (.int ((p3 &&& (255 : Int32)).toUInt32.toUInt16.toUInt32.toInt32)), .val (.int (f_first (p1 &&& (1 : Int32)))), .val (.int ((p0 &&& (2147483647 : Int32)) % (10 : Int32))), .unset, .unset] [(.int (116 : Int32)), (.int (10 : Int32)), (.ref br1), (.ref br1)])) rfl rfl (hb hby at_237)
              have Nr12 := Fr.snoc Xr12 Nr11 g_br1
              have Vr12 : Arv Z hr12 br1 kr1 .char (12 : Int32) [(.int (nar .char (105 : Int32))), (.int (nar .char (110 : Int32))), (.int (nar .char (115 : Int32))), (.int (nar .char (116 : Int32))), (.int (nar .char (97 : Int32))), (.int (nar .char (108 : Int32))), (.int (nar .char (108 : Int32))), (.int (nar .char (109 : Int32))), (.int (nar .char (101 : Int32))), (.int (nar .char (110 : Int32))), (.int (nar .char (116 : Int32))), (.int (0 : Int32))] (.int (0 : Int32)) := Arv.set Ar12 qr12 Sr12 Mr12 Hr12 Ur12 (fits_nar_char _) Wr12 10 rfl (Nat.le_of_ble_eq_true rfl)
              have Zr12 : n0 ≤ hr12.size := Nat.le_trans Zr11 (Keep.of_wr Wr12).1
              obtain ⟨Lpr12, Xr12, Nr12⟩ := own_pack Xr12 Nr12
              have Or12 := Or11.wr Wr12 g_br1
              have Gr12 := Gr11.wr Wr12 (Safe.arr hZ.alike Ar12 (by decide))
              obtain ⟨cr13, Ar13, qr13, Sr13, Mr13, Hr13, Ur13⟩ := id Vr12
              obtain ⟨Tr13, hr13, Xr13, er13, Wr13, str13⟩ := stC Xr12 hx hZ er12 Ar13 (j := (11 : Int32)) (inb_of Sr13 ⟨(by decide : ¬ ((11 : Int32) < (0 : Int32))), (by decide : (11 : Int32) < (12 : Int32))⟩) (g := (mkF m 243 #[.val (.int p0), .val (.int p1), .val (.int p2), .val (.int p3), .val (.int ((p2 &&& (255 : Int32)).toUInt32.toUInt16.toUInt32.toInt32)), .val (.int ((p3 &&& (255 : Int32)).toUInt32.toUInt16.toUInt32.toInt32)), .val (.int (f_first (p1 &&& (1 : Int32)))), .val (.int ((p0 &&& (2147483647 : Int32)) % (10 : Int32))), .unset, .unset] [(.int (115 : Int32)), (.int (11 : Int32)), (.ref br1), (.ref br1)])) rfl rfl (hb hby at_243)
              have Nr13 := Fr.snoc Xr13 Nr12 g_br1
              have Vr13 : Arv Z hr13 br1 kr1 .char (12 : Int32) [(.int (nar .char (105 : Int32))), (.int (nar .char (110 : Int32))), (.int (nar .char (115 : Int32))), (.int (nar .char (116 : Int32))), (.int (nar .char (97 : Int32))), (.int (nar .char (108 : Int32))), (.int (nar .char (108 : Int32))), (.int (nar .char (109 : Int32))), (.int (nar .char (101 : Int32))), (.int (nar .char (110 : Int32))), (.int (nar .char (116 : Int32))), (.int (nar .char (115 : Int32)))] (.int (0 : Int32)) := Arv.set Ar13 qr13 Sr13 Mr13 Hr13 Ur13 (fits_nar_char _) Wr13 11 rfl (Nat.le_of_ble_eq_true rfl)
              have Zr13 : n0 ≤ hr13.size := Nat.le_trans Zr12 (Keep.of_wr Wr13).1
              obtain ⟨Lpr13, Xr13, Nr13⟩ := own_pack Xr13 Nr13
              have Or13 := Or12.wr Wr13 g_br1
              have Gr13 := Gr12.wr Wr13 (Safe.arr hZ.alike Ar13 (by decide))
              have hp : ∀ c ∈ ([(nar .char (105 : Int32)), (nar .char (110 : Int32)), (nar .char (115 : Int32)), (nar .char (116 : Int32)), (nar .char (97 : Int32)), (nar .char (108 : Int32)), (nar .char (108 : Int32)), (nar .char (109 : Int32)), (nar .char (101 : Int32)), (nar .char (110 : Int32)), (nar .char (116 : Int32)), (nar .char (115 : Int32))] : List Int32), ¬ c < 0 ∧ ¬ (255 : Int32) < c := by
                intro c hc
                simp only [List.mem_cons, List.not_mem_nil, or_false] at hc
                rcases hc with rfl | rfl | rfl | rfl | rfl | rfl | rfl | rfl | rfl | rfl | rfl | rfl
                · exact by decide
                · exact by decide
                · exact by decide
                · exact by decide
                · exact by decide
                · exact by decide
                · exact by decide
                · exact by decide
                · exact by decide
                · exact by decide
                · exact by decide
                · exact by decide
              obtain ⟨j, ej, hj, hjl⟩ : ∃ j, ((p1 &&& (2147483647 : Int32)) % (12 : Int32)) = j ∧ (¬ (j < (0 : Int32)) ∧ j < (12 : Int32)) ∧ j.toNatClampNeg < 12 := ⟨_, rfl, own_k12 p1, own_kl12 p1⟩
              obtain ⟨cr14, Ar14, qr14, Sr14, Mr14, Hr14, Ur14⟩ := id Vr13
              obtain ⟨Tr14, hr14, Xr14, er14, Wr14, str14⟩ := stC Xr13 hx hZ er13 Ar14 (j := j) (inb_of Sr14 hj) (g := (mkF m 257 #[.val (.int p0), .val (.int p1), .val (.int p2), .val (.int p3), .val (.int ((p2 &&& (255 : Int32)).toUInt32.toUInt16.toUInt32.toInt32)), .val (.int ((p3 &&& (255 : Int32)).toUInt32.toUInt16.toUInt32.toInt32)), .val (.int (f_first (p1 &&& (1 : Int32)))), .val (.int ((p0 &&& (2147483647 : Int32)) % (10 : Int32))), .unset, .val (.ref br1)] [(.int ((p2 &&& (255 : Int32)).toUInt32.toUInt16.toUInt32.toInt32)), (.int j), (.ref br1)])) rfl rfl (hb hby at_257)
              have Nr14 := Fr.snoc Xr14 Nr13 g_br1
              obtain ⟨Lpr14, Xr14, Nr14⟩ := own_pack Xr14 Nr14
              have Vr14 := Arv.set Ar14 qr14 Sr14 Mr14 Hr14 Ur14 (fits_nar_char _) Wr14 j.toNatClampNeg rfl hjl
              have Zr14 : n0 ≤ hr14.size := Nat.le_trans Zr13 (Keep.of_wr Wr14).1
              have Or14 := Or13.wr Wr14 g_br1
              have Gr14 := Gr13.wr Wr14 (Safe.arr hZ.alike Ar14 (by decide))
              obtain ⟨cs, hl, hp, Vcs⟩ : ∃ cs : List Int32, cs.length = 12 ∧ (∀ c ∈ cs, ¬ c < 0 ∧ ¬ (255 : Int32) < c) ∧ Arv Z hr14 br1 kr1 .char (12 : Int32) (cs.map Value.int) (.int (0 : Int32)) := ⟨([(nar .char (105 : Int32)), (nar .char (110 : Int32)), (nar .char (115 : Int32)), (nar .char (116 : Int32)), (nar .char (97 : Int32)), (nar .char (108 : Int32)), (nar .char (108 : Int32)), (nar .char (109 : Int32)), (nar .char (101 : Int32)), (nar .char (110 : Int32)), (nar .char (116 : Int32)), (nar .char (115 : Int32))] : List Int32).set j.toNatClampNeg (nar .char ((p2 &&& (255 : Int32)).toUInt32.toUInt16.toUInt32.toInt32)), by rw [List.length_set]; rfl, fun c hc => (List.mem_or_eq_of_mem_set hc).elim (hp c) (fun q => by rw [q]; exact and255_chars p2), by rw [List.map_set]; exact Vr14⟩
              obtain ⟨Tr15, hr15, Xr15, er15, Er15, Ar15, Dr15, -, str15⟩ := newO Xr14 hx hZ hown (hw _ (List.mem_of_getElem? (i := 38) rfl)) (hw _ (List.mem_of_getElem? (i := 3) rfl)) (hw _ (List.mem_of_getElem? (i := 2) rfl)) er14 (g := (mkF m 258 #[.val (.int p0), .val (.int p1), .val (.int p2), .val (.int p3), .val (.int ((p2 &&& (255 : Int32)).toUInt32.toUInt16.toUInt32.toInt32)), .val (.int ((p3 &&& (255 : Int32)).toUInt32.toUInt16.toUInt32.toInt32)), .val (.int (f_first (p1 &&& (1 : Int32)))), .val (.int ((p0 &&& (2147483647 : Int32)) % (10 : Int32))), .unset, .val (.ref br1)] [])) rfl (hb hby at_258) (by decide) (by decide)
              obtain ⟨br15, gr15⟩ : ∃ z, z = hr14.size := ⟨_, rfl⟩
              rw [← gr15] at Ar15 Dr15 str15
              have Fvr15 : Fld Z hr15 br15 "java/lang/String" "value" "[B" .null := Dr15 (Or.inr (hw _ (List.mem_of_getElem? (i := 5) rfl))) (ty := (.array .byte)) (by decide)
              have Fcr15 : Fld Z hr15 br15 "java/lang/String" "coder" "B" (.int (0 : Int32)) := Dr15 (Or.inr (hw _ (List.mem_of_getElem? (i := 6) rfl))) (ty := .byte) (by decide)
              have g_br15 : n0 ≤ br15 := Nat.le_trans Zr14 (Nat.le_of_eq gr15.symm)
              have Zr15 : n0 ≤ hr15.size := Nat.le_trans Zr14 Er15.1
              have Or15 := Or14.ext Er15
              have Sfr15 := Safe.ext Er15 Gr14 (Safe.new (Nat.le_of_eq gr15.symm))
              have Gr15 := Gr14.ext Er15
              obtain ⟨_, _, ⟨Tr16, Lr16, kr16, nr16⟩, -, Xr16, ⟨Lcr16, hQr16, lr16, yr16, zr16⟩, str16⟩ := Xr15.specialBack hx (y := (⟨"java/lang/String", "<init>", "([C)V"⟩ : MethodName)) rfl hown (mvT hZ (hw _ (List.mem_of_getElem? (i := 39) rfl))) (mvT hZ (hw _ (List.mem_of_getElem? (i := 40) rfl))) (mvT hZ (hw _ (List.mem_of_getElem? (i := 41) rfl))) (by decide) (StrChars.Road.backV (W := 1) hZ hws (kI := 4) (hw _ (List.mem_of_getElem? (i := 3) rfl)) (cs := cs) (bs := (cs.map (fun c => c.toInt8.toInt32))) (n := 12) g_br15 Zr15 Ar15 Fvr15 Fcr15 (Vcs.ext Er15) (S_C.ext (own_oldE hZh Or15)) hC hl rfl (by decide) (by decide) hp rfl (by decide) (by decide)) (g := (mkF m 264 #[.val (.int p0), .val (.int p1), .val (.int p2), .val (.int p3), .val (.int ((p2 &&& (255 : Int32)).toUInt32.toUInt16.toUInt32.toInt32)), .val (.int ((p3 &&& (255 : Int32)).toUInt32.toUInt16.toUInt32.toInt32)), .val (.int (f_first (p1 &&& (1 : Int32)))), .val (.int ((p0 &&& (2147483647 : Int32)) % (10 : Int32))), .unset, .val (.ref br1)] [(.ref br1), (.ref br15), (.ref br15)])) rfl (by rw [hml]; rfl) (Steps.refl _) (a := br15) (argsL := [(.ref br1)]) (rest := [(.ref br15)]) (lenOf pd_law_2 rfl) rfl (by show 2 * 0 + _ ≤ _; exact Nat.le_of_eq rfl) (hb hby at_264) (fun _ _ => ⟨rfl, er15, (by decide : 2 + 1 ≤ _), (by decide : 16 + 12 ≤ _)⟩)
              dsimp only [Pt.U, Pt.locs, Pt.cells, Pt.slots] at Xr16 lr16 yr16 zr16 str16 hQr16
              subst lr16 yr16 zr16
              obtain ⟨rfl, Nr16q, Kr16, EN, CN, tN, kN, u1, u2, u3, VN, KN⟩ := hQr16
              have Nr16 := Fr.app Nr14 Nr16q
              obtain ⟨Lpr16, Xr16, Nr16⟩ := own_pack Xr16 Nr16
              have Or16 := Or15.keep Kr16 (allS g_br15 all0)
              have Zr16 : n0 ≤ Tr16.heap.size := Nat.le_trans Zr15 Kr16.1
              have Gr16 := Gr15.keep Kr16 (allS Sfr15 all0)
              have hlb : (cs.map (fun c => c.toInt8.toInt32)).length = 12 := by rw [List.length_map]; exact hl
              have KN' : Arv Z Tr16.heap tN kN .byte (Int32.ofNat (cs.map (fun c => c.toInt8.toInt32)).length) ((cs.map (fun c => c.toInt8.toInt32)).map Value.int) (.int (0 : Int32)) := by rw [hlb]; exact KN
              have OE := own_oldE hZh Or16
              have S_C' := S_C.ext OE
              have S_L' := S_L.ext OE
              have S_I' := S_I.ext OE
              have W_L' := W_L.ext OE
              have W_I' := W_I.ext OE
              obtain ⟨t, hst, hrun, hended, L, NL, hEnd⟩ := own_end (s := s) (vm0 := s.vm) (.val (.int p0)) (.val (.int p1)) (.val (.int p2)) (.val (.int p3)) (.val (.int ((p2 &&& (255 : Int32)).toUInt32.toUInt16.toUInt32.toInt32))) (.val (.int ((p3 &&& (255 : Int32)).toUInt32.toUInt16.toUInt32.toInt32))) (.val (.int (f_first (p1 &&& (1 : Int32))))) (.val (.int ((p0 &&& (2147483647 : Int32)) % (10 : Int32)))) (.val (.ref br1)) (One.val rfl) br15 tN kN (cs.map (fun c => c.toInt8.toInt32)) wL wI iC (Xr16.more (by decide) (by decide)) hx Bd.returns Bd.notSynchronized hZ hw hby hml hown rfl hS0 (Nat.le_trans (Nat.le_of_eq hn0.symm) Zr16) Nr16 Zr16 wStr hEW Gr16 S_L' S_I' W_L' W_I' S_C' hC (by rw [hlb]; decide) EN CN VN KN'
              refine ⟨t, _, pre0 _ ?_, hrun, hended, _, L, rfl, ⟨rfl, NL⟩, hEnd⟩
              show Steps p.tables e below (s₁.setTop (mkF m 0 #[.val (.int p0), .val (.int p1), .val (.int p2), .val (.int p3), .unset, .unset, .unset, .unset, .unset, .unset] [])) _
              refine XS.iloadN X0.here hx rfl (hb hby at_0) rfl ?_
              show Steps p.tables e below (s₁.setTop (mkF m 1 #[.val (.int p0), .val (.int p1), .val (.int p2), .val (.int p3), .unset, .unset, .unset, .unset, .unset, .unset] [(.int p2)])) _
              refine XS.sipush X0.here hx rfl (hb hby at_1) ?_
              show Steps p.tables e below (s₁.setTop (mkF m 4 #[.val (.int p0), .val (.int p1), .val (.int p2), .val (.int p3), .unset, .unset, .unset, .unset, .unset, .unset] [(.int (255 : Int32)), (.int p2)])) _
              refine XS.iand X0.here hx rfl (hb hby at_4) rfl ?_
              show Steps p.tables e below (s₁.setTop (mkF m 5 #[.val (.int p0), .val (.int p1), .val (.int p2), .val (.int p3), .unset, .unset, .unset, .unset, .unset, .unset] [(.int (p2 &&& (255 : Int32)))])) _
              refine XS.i2c X0.here hx rfl (hb hby at_5) rfl ?_
              show Steps p.tables e below (s₁.setTop (mkF m 6 #[.val (.int p0), .val (.int p1), .val (.int p2), .val (.int p3), .unset, .unset, .unset, .unset, .unset, .unset] [(.int ((p2 &&& (255 : Int32)).toUInt32.toUInt16.toUInt32.toInt32))])) _
              refine XS.istore X0.here hx rfl (hb hby at_6) rfl (l' := #[.val (.int p0), .val (.int p1), .val (.int p2), .val (.int p3), .val (.int ((p2 &&& (255 : Int32)).toUInt32.toUInt16.toUInt32.toInt32)), .unset, .unset, .unset, .unset, .unset]) rfl ?_
              show Steps p.tables e below (s₁.setTop (mkF m 8 #[.val (.int p0), .val (.int p1), .val (.int p2), .val (.int p3), .val (.int ((p2 &&& (255 : Int32)).toUInt32.toUInt16.toUInt32.toInt32)), .unset, .unset, .unset, .unset, .unset] [])) _
              refine XS.iloadN X0.here hx rfl (hb hby at_8) rfl ?_
              show Steps p.tables e below (s₁.setTop (mkF m 9 #[.val (.int p0), .val (.int p1), .val (.int p2), .val (.int p3), .val (.int ((p2 &&& (255 : Int32)).toUInt32.toUInt16.toUInt32.toInt32)), .unset, .unset, .unset, .unset, .unset] [(.int p3)])) _
              refine XS.sipush X0.here hx rfl (hb hby at_9) ?_
              show Steps p.tables e below (s₁.setTop (mkF m 12 #[.val (.int p0), .val (.int p1), .val (.int p2), .val (.int p3), .val (.int ((p2 &&& (255 : Int32)).toUInt32.toUInt16.toUInt32.toInt32)), .unset, .unset, .unset, .unset, .unset] [(.int (255 : Int32)), (.int p3)])) _
              refine XS.iand X0.here hx rfl (hb hby at_12) rfl ?_
              show Steps p.tables e below (s₁.setTop (mkF m 13 #[.val (.int p0), .val (.int p1), .val (.int p2), .val (.int p3), .val (.int ((p2 &&& (255 : Int32)).toUInt32.toUInt16.toUInt32.toInt32)), .unset, .unset, .unset, .unset, .unset] [(.int (p3 &&& (255 : Int32)))])) _
              refine XS.i2c X0.here hx rfl (hb hby at_13) rfl ?_
              show Steps p.tables e below (s₁.setTop (mkF m 14 #[.val (.int p0), .val (.int p1), .val (.int p2), .val (.int p3), .val (.int ((p2 &&& (255 : Int32)).toUInt32.toUInt16.toUInt32.toInt32)), .unset, .unset, .unset, .unset, .unset] [(.int ((p3 &&& (255 : Int32)).toUInt32.toUInt16.toUInt32.toInt32))])) _
              refine XS.istore X0.here hx rfl (hb hby at_14) rfl (l' := #[.val (.int p0), .val (.int p1), .val (.int p2), .val (.int p3), .val (.int ((p2 &&& (255 : Int32)).toUInt32.toUInt16.toUInt32.toInt32)), .val (.int ((p3 &&& (255 : Int32)).toUInt32.toUInt16.toUInt32.toInt32)), .unset, .unset, .unset, .unset]) rfl ?_
              show Steps p.tables e below (s₁.setTop (mkF m 16 #[.val (.int p0), .val (.int p1), .val (.int p2), .val (.int p3), .val (.int ((p2 &&& (255 : Int32)).toUInt32.toUInt16.toUInt32.toInt32)), .val (.int ((p3 &&& (255 : Int32)).toUInt32.toUInt16.toUInt32.toInt32)), .unset, .unset, .unset, .unset] [])) _
              refine XS.iloadN X0.here hx rfl (hb hby at_16) rfl ?_
              show Steps p.tables e below (s₁.setTop (mkF m 17 #[.val (.int p0), .val (.int p1), .val (.int p2), .val (.int p3), .val (.int ((p2 &&& (255 : Int32)).toUInt32.toUInt16.toUInt32.toInt32)), .val (.int ((p3 &&& (255 : Int32)).toUInt32.toUInt16.toUInt32.toInt32)), .unset, .unset, .unset, .unset] [(.int p1)])) _
              refine XS.iconst X0.here hx rfl (hb hby at_17) ?_
              show Steps p.tables e below (s₁.setTop (mkF m 18 #[.val (.int p0), .val (.int p1), .val (.int p2), .val (.int p3), .val (.int ((p2 &&& (255 : Int32)).toUInt32.toUInt16.toUInt32.toInt32)), .val (.int ((p3 &&& (255 : Int32)).toUInt32.toUInt16.toUInt32.toInt32)), .unset, .unset, .unset, .unset] [(.int (1 : Int32)), (.int p1)])) _
              refine XS.iand X0.here hx rfl (hb hby at_18) rfl ?_
              have key : Steps p.tables e below (s₁.setTop (mkF m 27 #[.val (.int p0), .val (.int p1), .val (.int p2), .val (.int p3), .val (.int ((p2 &&& (255 : Int32)).toUInt32.toUInt16.toUInt32.toInt32)), .val (.int ((p3 &&& (255 : Int32)).toUInt32.toUInt16.toUInt32.toInt32)), .unset, .unset, .unset, .unset] [(.int (f_first (p1 &&& (1 : Int32))))])) t := by
                show Steps p.tables e below (s₁.setTop (mkF m 27 #[.val (.int p0), .val (.int p1), .val (.int p2), .val (.int p3), .val (.int ((p2 &&& (255 : Int32)).toUInt32.toUInt16.toUInt32.toInt32)), .val (.int ((p3 &&& (255 : Int32)).toUInt32.toUInt16.toUInt32.toInt32)), .unset, .unset, .unset, .unset] [(.int (f_first (p1 &&& (1 : Int32))))])) _
                refine XS.istore X0.here hx rfl (hb hby at_27) rfl (l' := #[.val (.int p0), .val (.int p1), .val (.int p2), .val (.int p3), .val (.int ((p2 &&& (255 : Int32)).toUInt32.toUInt16.toUInt32.toInt32)), .val (.int ((p3 &&& (255 : Int32)).toUInt32.toUInt16.toUInt32.toInt32)), .val (.int (f_first (p1 &&& (1 : Int32)))), .unset, .unset, .unset]) rfl ?_
                show Steps p.tables e below (s₁.setTop (mkF m 29 #[.val (.int p0), .val (.int p1), .val (.int p2), .val (.int p3), .val (.int ((p2 &&& (255 : Int32)).toUInt32.toUInt16.toUInt32.toInt32)), .val (.int ((p3 &&& (255 : Int32)).toUInt32.toUInt16.toUInt32.toInt32)), .val (.int (f_first (p1 &&& (1 : Int32)))), .unset, .unset, .unset] [])) _
                refine XS.iloadN X0.here hx rfl (hb hby at_29) rfl ?_
                show Steps p.tables e below (s₁.setTop (mkF m 30 #[.val (.int p0), .val (.int p1), .val (.int p2), .val (.int p3), .val (.int ((p2 &&& (255 : Int32)).toUInt32.toUInt16.toUInt32.toInt32)), .val (.int ((p3 &&& (255 : Int32)).toUInt32.toUInt16.toUInt32.toInt32)), .val (.int (f_first (p1 &&& (1 : Int32)))), .unset, .unset, .unset] [(.int p0)])) _
                refine X0.ldcInt hx hown (mvT hZ (hw _ (List.mem_of_getElem? (i := 0) rfl))) (g := (mkF m 30 #[.val (.int p0), .val (.int p1), .val (.int p2), .val (.int p3), .val (.int ((p2 &&& (255 : Int32)).toUInt32.toUInt16.toUInt32.toInt32)), .val (.int ((p3 &&& (255 : Int32)).toUInt32.toUInt16.toUInt32.toInt32)), .val (.int (f_first (p1 &&& (1 : Int32)))), .unset, .unset, .unset] [(.int p0)])) rfl (hb hby at_30) _ ?_
                show Steps p.tables e below (s₁.setTop (mkF m 32 #[.val (.int p0), .val (.int p1), .val (.int p2), .val (.int p3), .val (.int ((p2 &&& (255 : Int32)).toUInt32.toUInt16.toUInt32.toInt32)), .val (.int ((p3 &&& (255 : Int32)).toUInt32.toUInt16.toUInt32.toInt32)), .val (.int (f_first (p1 &&& (1 : Int32)))), .unset, .unset, .unset] [(.int (2147483647 : Int32)), (.int p0)])) _
                refine XS.iand X0.here hx rfl (hb hby at_32) rfl ?_
                show Steps p.tables e below (s₁.setTop (mkF m 33 #[.val (.int p0), .val (.int p1), .val (.int p2), .val (.int p3), .val (.int ((p2 &&& (255 : Int32)).toUInt32.toUInt16.toUInt32.toInt32)), .val (.int ((p3 &&& (255 : Int32)).toUInt32.toUInt16.toUInt32.toInt32)), .val (.int (f_first (p1 &&& (1 : Int32)))), .unset, .unset, .unset] [(.int (p0 &&& (2147483647 : Int32)))])) _
                refine XS.bipush X0.here hx rfl (hb hby at_33) ?_
                show Steps p.tables e below (s₁.setTop (mkF m 35 #[.val (.int p0), .val (.int p1), .val (.int p2), .val (.int p3), .val (.int ((p2 &&& (255 : Int32)).toUInt32.toUInt16.toUInt32.toInt32)), .val (.int ((p3 &&& (255 : Int32)).toUInt32.toUInt16.toUInt32.toInt32)), .val (.int (f_first (p1 &&& (1 : Int32)))), .unset, .unset, .unset] [(.int (10 : Int32)), (.int (p0 &&& (2147483647 : Int32)))])) _
                refine Jvm.RoadKit.iremM X0 hx rfl (hb hby at_35) rfl (by decide) ?_
                show Steps p.tables e below (s₁.setTop (mkF m 36 #[.val (.int p0), .val (.int p1), .val (.int p2), .val (.int p3), .val (.int ((p2 &&& (255 : Int32)).toUInt32.toUInt16.toUInt32.toInt32)), .val (.int ((p3 &&& (255 : Int32)).toUInt32.toUInt16.toUInt32.toInt32)), .val (.int (f_first (p1 &&& (1 : Int32)))), .unset, .unset, .unset] [(.int ((p0 &&& (2147483647 : Int32)) % (10 : Int32)))])) _
                refine XS.istore X0.here hx rfl (hb hby at_36) rfl (l' := #[.val (.int p0), .val (.int p1), .val (.int p2), .val (.int p3), .val (.int ((p2 &&& (255 : Int32)).toUInt32.toUInt16.toUInt32.toInt32)), .val (.int ((p3 &&& (255 : Int32)).toUInt32.toUInt16.toUInt32.toInt32)), .val (.int (f_first (p1 &&& (1 : Int32)))), .val (.int ((p0 &&& (2147483647 : Int32)) % (10 : Int32))), .unset, .unset]) rfl ?_
                show Steps p.tables e below (s₁.setTop (mkF m 38 #[.val (.int p0), .val (.int p1), .val (.int p2), .val (.int p3), .val (.int ((p2 &&& (255 : Int32)).toUInt32.toUInt16.toUInt32.toInt32)), .val (.int ((p3 &&& (255 : Int32)).toUInt32.toUInt16.toUInt32.toInt32)), .val (.int (f_first (p1 &&& (1 : Int32)))), .val (.int ((p0 &&& (2147483647 : Int32)) % (10 : Int32))), .unset, .unset] [])) _
                refine XS.iload X0.here hx rfl (hb hby at_38) rfl ?_
                show Steps p.tables e below (s₁.setTop (mkF m 40 #[.val (.int p0), .val (.int p1), .val (.int p2), .val (.int p3), .val (.int ((p2 &&& (255 : Int32)).toUInt32.toUInt16.toUInt32.toInt32)), .val (.int ((p3 &&& (255 : Int32)).toUInt32.toUInt16.toUInt32.toInt32)), .val (.int (f_first (p1 &&& (1 : Int32)))), .val (.int ((p0 &&& (2147483647 : Int32)) % (10 : Int32))), .unset, .unset] [(.int ((p0 &&& (2147483647 : Int32)) % (10 : Int32)))])) _
                refine XS.ifYes X0.here hx rfl (pc0 := 40) (pc' := 50) rfl (hb hby at_40) rfl ((if0 _ _).trans (feq hcase0).2) (by decide) (by decide) ?_
                show Steps p.tables e below (s₁.setTop (mkF m 50 #[.val (.int p0), .val (.int p1), .val (.int p2), .val (.int p3), .val (.int ((p2 &&& (255 : Int32)).toUInt32.toUInt16.toUInt32.toInt32)), .val (.int ((p3 &&& (255 : Int32)).toUInt32.toUInt16.toUInt32.toInt32)), .val (.int (f_first (p1 &&& (1 : Int32)))), .val (.int ((p0 &&& (2147483647 : Int32)) % (10 : Int32))), .unset, .unset] [])) _
                refine XS.iload X0.here hx rfl (hb hby at_50) rfl ?_
                show Steps p.tables e below (s₁.setTop (mkF m 52 #[.val (.int p0), .val (.int p1), .val (.int p2), .val (.int p3), .val (.int ((p2 &&& (255 : Int32)).toUInt32.toUInt16.toUInt32.toInt32)), .val (.int ((p3 &&& (255 : Int32)).toUInt32.toUInt16.toUInt32.toInt32)), .val (.int (f_first (p1 &&& (1 : Int32)))), .val (.int ((p0 &&& (2147483647 : Int32)) % (10 : Int32))), .unset, .unset] [(.int ((p0 &&& (2147483647 : Int32)) % (10 : Int32)))])) _
                refine XS.iconst X0.here hx rfl (hb hby at_52) ?_
                show Steps p.tables e below (s₁.setTop (mkF m 53 #[.val (.int p0), .val (.int p1), .val (.int p2), .val (.int p3), .val (.int ((p2 &&& (255 : Int32)).toUInt32.toUInt16.toUInt32.toInt32)), .val (.int ((p3 &&& (255 : Int32)).toUInt32.toUInt16.toUInt32.toInt32)), .val (.int (f_first (p1 &&& (1 : Int32)))), .val (.int ((p0 &&& (2147483647 : Int32)) % (10 : Int32))), .unset, .unset] [(.int (1 : Int32)), (.int ((p0 &&& (2147483647 : Int32)) % (10 : Int32)))])) _
                refine XS.icmpYes X0.here hx rfl (pc0 := 53) (pc' := 63) rfl (hb hby at_53) rfl (feq hcase1).2 (by decide) (by decide) ?_
                show Steps p.tables e below (s₁.setTop (mkF m 63 #[.val (.int p0), .val (.int p1), .val (.int p2), .val (.int p3), .val (.int ((p2 &&& (255 : Int32)).toUInt32.toUInt16.toUInt32.toInt32)), .val (.int ((p3 &&& (255 : Int32)).toUInt32.toUInt16.toUInt32.toInt32)), .val (.int (f_first (p1 &&& (1 : Int32)))), .val (.int ((p0 &&& (2147483647 : Int32)) % (10 : Int32))), .unset, .unset] [])) _
                refine XS.iload X0.here hx rfl (hb hby at_63) rfl ?_
                show Steps p.tables e below (s₁.setTop (mkF m 65 #[.val (.int p0), .val (.int p1), .val (.int p2), .val (.int p3), .val (.int ((p2 &&& (255 : Int32)).toUInt32.toUInt16.toUInt32.toInt32)), .val (.int ((p3 &&& (255 : Int32)).toUInt32.toUInt16.toUInt32.toInt32)), .val (.int (f_first (p1 &&& (1 : Int32)))), .val (.int ((p0 &&& (2147483647 : Int32)) % (10 : Int32))), .unset, .unset] [(.int ((p0 &&& (2147483647 : Int32)) % (10 : Int32)))])) _
                refine XS.iconst X0.here hx rfl (hb hby at_65) ?_
                show Steps p.tables e below (s₁.setTop (mkF m 66 #[.val (.int p0), .val (.int p1), .val (.int p2), .val (.int p3), .val (.int ((p2 &&& (255 : Int32)).toUInt32.toUInt16.toUInt32.toInt32)), .val (.int ((p3 &&& (255 : Int32)).toUInt32.toUInt16.toUInt32.toInt32)), .val (.int (f_first (p1 &&& (1 : Int32)))), .val (.int ((p0 &&& (2147483647 : Int32)) % (10 : Int32))), .unset, .unset] [(.int (2 : Int32)), (.int ((p0 &&& (2147483647 : Int32)) % (10 : Int32)))])) _
                refine XS.icmpYes X0.here hx rfl (pc0 := 66) (pc' := 76) rfl (hb hby at_66) rfl (feq hcase2).2 (by decide) (by decide) ?_
                show Steps p.tables e below (s₁.setTop (mkF m 76 #[.val (.int p0), .val (.int p1), .val (.int p2), .val (.int p3), .val (.int ((p2 &&& (255 : Int32)).toUInt32.toUInt16.toUInt32.toInt32)), .val (.int ((p3 &&& (255 : Int32)).toUInt32.toUInt16.toUInt32.toInt32)), .val (.int (f_first (p1 &&& (1 : Int32)))), .val (.int ((p0 &&& (2147483647 : Int32)) % (10 : Int32))), .unset, .unset] [])) _
                refine XS.iload X0.here hx rfl (hb hby at_76) rfl ?_
                show Steps p.tables e below (s₁.setTop (mkF m 78 #[.val (.int p0), .val (.int p1), .val (.int p2), .val (.int p3), .val (.int ((p2 &&& (255 : Int32)).toUInt32.toUInt16.toUInt32.toInt32)), .val (.int ((p3 &&& (255 : Int32)).toUInt32.toUInt16.toUInt32.toInt32)), .val (.int (f_first (p1 &&& (1 : Int32)))), .val (.int ((p0 &&& (2147483647 : Int32)) % (10 : Int32))), .unset, .unset] [(.int ((p0 &&& (2147483647 : Int32)) % (10 : Int32)))])) _
                refine XS.iconst X0.here hx rfl (hb hby at_78) ?_
                show Steps p.tables e below (s₁.setTop (mkF m 79 #[.val (.int p0), .val (.int p1), .val (.int p2), .val (.int p3), .val (.int ((p2 &&& (255 : Int32)).toUInt32.toUInt16.toUInt32.toInt32)), .val (.int ((p3 &&& (255 : Int32)).toUInt32.toUInt16.toUInt32.toInt32)), .val (.int (f_first (p1 &&& (1 : Int32)))), .val (.int ((p0 &&& (2147483647 : Int32)) % (10 : Int32))), .unset, .unset] [(.int (3 : Int32)), (.int ((p0 &&& (2147483647 : Int32)) % (10 : Int32)))])) _
                refine XS.icmpYes X0.here hx rfl (pc0 := 79) (pc' := 88) rfl (hb hby at_79) rfl (feq hcase3).2 (by decide) (by decide) ?_
                show Steps p.tables e below (s₁.setTop (mkF m 88 #[.val (.int p0), .val (.int p1), .val (.int p2), .val (.int p3), .val (.int ((p2 &&& (255 : Int32)).toUInt32.toUInt16.toUInt32.toInt32)), .val (.int ((p3 &&& (255 : Int32)).toUInt32.toUInt16.toUInt32.toInt32)), .val (.int (f_first (p1 &&& (1 : Int32)))), .val (.int ((p0 &&& (2147483647 : Int32)) % (10 : Int32))), .unset, .unset] [])) _
                refine XS.iload X0.here hx rfl (hb hby at_88) rfl ?_
                show Steps p.tables e below (s₁.setTop (mkF m 90 #[.val (.int p0), .val (.int p1), .val (.int p2), .val (.int p3), .val (.int ((p2 &&& (255 : Int32)).toUInt32.toUInt16.toUInt32.toInt32)), .val (.int ((p3 &&& (255 : Int32)).toUInt32.toUInt16.toUInt32.toInt32)), .val (.int (f_first (p1 &&& (1 : Int32)))), .val (.int ((p0 &&& (2147483647 : Int32)) % (10 : Int32))), .unset, .unset] [(.int ((p0 &&& (2147483647 : Int32)) % (10 : Int32)))])) _
                refine XS.iconst X0.here hx rfl (hb hby at_90) ?_
                show Steps p.tables e below (s₁.setTop (mkF m 91 #[.val (.int p0), .val (.int p1), .val (.int p2), .val (.int p3), .val (.int ((p2 &&& (255 : Int32)).toUInt32.toUInt16.toUInt32.toInt32)), .val (.int ((p3 &&& (255 : Int32)).toUInt32.toUInt16.toUInt32.toInt32)), .val (.int (f_first (p1 &&& (1 : Int32)))), .val (.int ((p0 &&& (2147483647 : Int32)) % (10 : Int32))), .unset, .unset] [(.int (4 : Int32)), (.int ((p0 &&& (2147483647 : Int32)) % (10 : Int32)))])) _
                refine XS.icmpYes X0.here hx rfl (pc0 := 91) (pc' := 168) rfl (hb hby at_91) rfl (feq hcase4).2 (by decide) (by decide) ?_
                show Steps p.tables e below (s₁.setTop (mkF m 168 #[.val (.int p0), .val (.int p1), .val (.int p2), .val (.int p3), .val (.int ((p2 &&& (255 : Int32)).toUInt32.toUInt16.toUInt32.toInt32)), .val (.int ((p3 &&& (255 : Int32)).toUInt32.toUInt16.toUInt32.toInt32)), .val (.int (f_first (p1 &&& (1 : Int32)))), .val (.int ((p0 &&& (2147483647 : Int32)) % (10 : Int32))), .unset, .unset] [])) _
                refine XS.iload X0.here hx rfl (hb hby at_168) rfl ?_
                show Steps p.tables e below (s₁.setTop (mkF m 170 #[.val (.int p0), .val (.int p1), .val (.int p2), .val (.int p3), .val (.int ((p2 &&& (255 : Int32)).toUInt32.toUInt16.toUInt32.toInt32)), .val (.int ((p3 &&& (255 : Int32)).toUInt32.toUInt16.toUInt32.toInt32)), .val (.int (f_first (p1 &&& (1 : Int32)))), .val (.int ((p0 &&& (2147483647 : Int32)) % (10 : Int32))), .unset, .unset] [(.int ((p0 &&& (2147483647 : Int32)) % (10 : Int32)))])) _
                refine XS.iconst X0.here hx rfl (hb hby at_170) ?_
                show Steps p.tables e below (s₁.setTop (mkF m 171 #[.val (.int p0), .val (.int p1), .val (.int p2), .val (.int p3), .val (.int ((p2 &&& (255 : Int32)).toUInt32.toUInt16.toUInt32.toInt32)), .val (.int ((p3 &&& (255 : Int32)).toUInt32.toUInt16.toUInt32.toInt32)), .val (.int (f_first (p1 &&& (1 : Int32)))), .val (.int ((p0 &&& (2147483647 : Int32)) % (10 : Int32))), .unset, .unset] [(.int (5 : Int32)), (.int ((p0 &&& (2147483647 : Int32)) % (10 : Int32)))])) _
                refine XS.icmpNo X0.here hx rfl (hb hby at_171) rfl (teq hcase5).2 ?_
                show Steps p.tables e below (s₁.setTop (mkF m 174 #[.val (.int p0), .val (.int p1), .val (.int p2), .val (.int p3), .val (.int ((p2 &&& (255 : Int32)).toUInt32.toUInt16.toUInt32.toInt32)), .val (.int ((p3 &&& (255 : Int32)).toUInt32.toUInt16.toUInt32.toInt32)), .val (.int (f_first (p1 &&& (1 : Int32)))), .val (.int ((p0 &&& (2147483647 : Int32)) % (10 : Int32))), .unset, .unset] [])) _
                refine XS.bipush X0.here hx rfl (hb hby at_174) ?_
                show Steps p.tables e below (s₁.setTop (mkF m 176 #[.val (.int p0), .val (.int p1), .val (.int p2), .val (.int p3), .val (.int ((p2 &&& (255 : Int32)).toUInt32.toUInt16.toUInt32.toInt32)), .val (.int ((p3 &&& (255 : Int32)).toUInt32.toUInt16.toUInt32.toInt32)), .val (.int (f_first (p1 &&& (1 : Int32)))), .val (.int ((p0 &&& (2147483647 : Int32)) % (10 : Int32))), .unset, .unset] [(.int (12 : Int32))])) _
                refine str1 _ ?_
                show Steps p.tables e below (Tr1.setTop (mkF m 178 #[.val (.int p0), .val (.int p1), .val (.int p2), .val (.int p3), .val (.int ((p2 &&& (255 : Int32)).toUInt32.toUInt16.toUInt32.toInt32)), .val (.int ((p3 &&& (255 : Int32)).toUInt32.toUInt16.toUInt32.toInt32)), .val (.int (f_first (p1 &&& (1 : Int32)))), .val (.int ((p0 &&& (2147483647 : Int32)) % (10 : Int32))), .unset, .unset] [(.ref br1)])) _
                refine XS.dup Xr1.here hx rfl (hb hby at_178) rfl rfl ?_
                show Steps p.tables e below (Tr1.setTop (mkF m 179 #[.val (.int p0), .val (.int p1), .val (.int p2), .val (.int p3), .val (.int ((p2 &&& (255 : Int32)).toUInt32.toUInt16.toUInt32.toInt32)), .val (.int ((p3 &&& (255 : Int32)).toUInt32.toUInt16.toUInt32.toInt32)), .val (.int (f_first (p1 &&& (1 : Int32)))), .val (.int ((p0 &&& (2147483647 : Int32)) % (10 : Int32))), .unset, .unset] [(.ref br1), (.ref br1)])) _
                refine XS.iconst Xr1.here hx rfl (hb hby at_179) ?_
                show Steps p.tables e below (Tr1.setTop (mkF m 180 #[.val (.int p0), .val (.int p1), .val (.int p2), .val (.int p3), .val (.int ((p2 &&& (255 : Int32)).toUInt32.toUInt16.toUInt32.toInt32)), .val (.int ((p3 &&& (255 : Int32)).toUInt32.toUInt16.toUInt32.toInt32)), .val (.int (f_first (p1 &&& (1 : Int32)))), .val (.int ((p0 &&& (2147483647 : Int32)) % (10 : Int32))), .unset, .unset] [(.int (0 : Int32)), (.ref br1), (.ref br1)])) _
                refine XS.bipush Xr1.here hx rfl (hb hby at_180) ?_
                show Steps p.tables e below (Tr1.setTop (mkF m 182 #[.val (.int p0), .val (.int p1), .val (.int p2), .val (.int p3), .val (.int ((p2 &&& (255 : Int32)).toUInt32.toUInt16.toUInt32.toInt32)), .val (.int ((p3 &&& (255 : Int32)).toUInt32.toUInt16.toUInt32.toInt32)), .val (.int (f_first (p1 &&& (1 : Int32)))), .val (.int ((p0 &&& (2147483647 : Int32)) % (10 : Int32))), .unset, .unset] [(.int (105 : Int32)), (.int (0 : Int32)), (.ref br1), (.ref br1)])) _
                refine str2 _ ?_
                show Steps p.tables e below (Tr2.setTop (mkF m 183 #[.val (.int p0), .val (.int p1), .val (.int p2), .val (.int p3), .val (.int ((p2 &&& (255 : Int32)).toUInt32.toUInt16.toUInt32.toInt32)), .val (.int ((p3 &&& (255 : Int32)).toUInt32.toUInt16.toUInt32.toInt32)), .val (.int (f_first (p1 &&& (1 : Int32)))), .val (.int ((p0 &&& (2147483647 : Int32)) % (10 : Int32))), .unset, .unset] [(.ref br1)])) _
                refine XS.dup Xr2.here hx rfl (hb hby at_183) rfl rfl ?_
                show Steps p.tables e below (Tr2.setTop (mkF m 184 #[.val (.int p0), .val (.int p1), .val (.int p2), .val (.int p3), .val (.int ((p2 &&& (255 : Int32)).toUInt32.toUInt16.toUInt32.toInt32)), .val (.int ((p3 &&& (255 : Int32)).toUInt32.toUInt16.toUInt32.toInt32)), .val (.int (f_first (p1 &&& (1 : Int32)))), .val (.int ((p0 &&& (2147483647 : Int32)) % (10 : Int32))), .unset, .unset] [(.ref br1), (.ref br1)])) _
                refine XS.iconst Xr2.here hx rfl (hb hby at_184) ?_
                show Steps p.tables e below (Tr2.setTop (mkF m 185 #[.val (.int p0), .val (.int p1), .val (.int p2), .val (.int p3), .val (.int ((p2 &&& (255 : Int32)).toUInt32.toUInt16.toUInt32.toInt32)), .val (.int ((p3 &&& (255 : Int32)).toUInt32.toUInt16.toUInt32.toInt32)), .val (.int (f_first (p1 &&& (1 : Int32)))), .val (.int ((p0 &&& (2147483647 : Int32)) % (10 : Int32))), .unset, .unset] [(.int (1 : Int32)), (.ref br1), (.ref br1)])) _
                refine XS.bipush Xr2.here hx rfl (hb hby at_185) ?_
                show Steps p.tables e below (Tr2.setTop (mkF m 187 #[.val (.int p0), .val (.int p1), .val (.int p2), .val (.int p3), .val (.int ((p2 &&& (255 : Int32)).toUInt32.toUInt16.toUInt32.toInt32)), .val (.int ((p3 &&& (255 : Int32)).toUInt32.toUInt16.toUInt32.toInt32)), .val (.int (f_first (p1 &&& (1 : Int32)))), .val (.int ((p0 &&& (2147483647 : Int32)) % (10 : Int32))), .unset, .unset] [(.int (110 : Int32)), (.int (1 : Int32)), (.ref br1), (.ref br1)])) _
                refine str3 _ ?_
                show Steps p.tables e below (Tr3.setTop (mkF m 188 #[.val (.int p0), .val (.int p1), .val (.int p2), .val (.int p3), .val (.int ((p2 &&& (255 : Int32)).toUInt32.toUInt16.toUInt32.toInt32)), .val (.int ((p3 &&& (255 : Int32)).toUInt32.toUInt16.toUInt32.toInt32)), .val (.int (f_first (p1 &&& (1 : Int32)))), .val (.int ((p0 &&& (2147483647 : Int32)) % (10 : Int32))), .unset, .unset] [(.ref br1)])) _
                refine XS.dup Xr3.here hx rfl (hb hby at_188) rfl rfl ?_
                show Steps p.tables e below (Tr3.setTop (mkF m 189 #[.val (.int p0), .val (.int p1), .val (.int p2), .val (.int p3), .val (.int ((p2 &&& (255 : Int32)).toUInt32.toUInt16.toUInt32.toInt32)), .val (.int ((p3 &&& (255 : Int32)).toUInt32.toUInt16.toUInt32.toInt32)), .val (.int (f_first (p1 &&& (1 : Int32)))), .val (.int ((p0 &&& (2147483647 : Int32)) % (10 : Int32))), .unset, .unset] [(.ref br1), (.ref br1)])) _
                refine XS.iconst Xr3.here hx rfl (hb hby at_189) ?_
                show Steps p.tables e below (Tr3.setTop (mkF m 190 #[.val (.int p0), .val (.int p1), .val (.int p2), .val (.int p3), .val (.int ((p2 &&& (255 : Int32)).toUInt32.toUInt16.toUInt32.toInt32)), .val (.int ((p3 &&& (255 : Int32)).toUInt32.toUInt16.toUInt32.toInt32)), .val (.int (f_first (p1 &&& (1 : Int32)))), .val (.int ((p0 &&& (2147483647 : Int32)) % (10 : Int32))), .unset, .unset] [(.int (2 : Int32)), (.ref br1), (.ref br1)])) _
                refine XS.bipush Xr3.here hx rfl (hb hby at_190) ?_
                show Steps p.tables e below (Tr3.setTop (mkF m 192 #[.val (.int p0), .val (.int p1), .val (.int p2), .val (.int p3), .val (.int ((p2 &&& (255 : Int32)).toUInt32.toUInt16.toUInt32.toInt32)), .val (.int ((p3 &&& (255 : Int32)).toUInt32.toUInt16.toUInt32.toInt32)), .val (.int (f_first (p1 &&& (1 : Int32)))), .val (.int ((p0 &&& (2147483647 : Int32)) % (10 : Int32))), .unset, .unset] [(.int (115 : Int32)), (.int (2 : Int32)), (.ref br1), (.ref br1)])) _
                refine str4 _ ?_
                show Steps p.tables e below (Tr4.setTop (mkF m 193 #[.val (.int p0), .val (.int p1), .val (.int p2), .val (.int p3), .val (.int ((p2 &&& (255 : Int32)).toUInt32.toUInt16.toUInt32.toInt32)), .val (.int ((p3 &&& (255 : Int32)).toUInt32.toUInt16.toUInt32.toInt32)), .val (.int (f_first (p1 &&& (1 : Int32)))), .val (.int ((p0 &&& (2147483647 : Int32)) % (10 : Int32))), .unset, .unset] [(.ref br1)])) _
                refine XS.dup Xr4.here hx rfl (hb hby at_193) rfl rfl ?_
                show Steps p.tables e below (Tr4.setTop (mkF m 194 #[.val (.int p0), .val (.int p1), .val (.int p2), .val (.int p3), .val (.int ((p2 &&& (255 : Int32)).toUInt32.toUInt16.toUInt32.toInt32)), .val (.int ((p3 &&& (255 : Int32)).toUInt32.toUInt16.toUInt32.toInt32)), .val (.int (f_first (p1 &&& (1 : Int32)))), .val (.int ((p0 &&& (2147483647 : Int32)) % (10 : Int32))), .unset, .unset] [(.ref br1), (.ref br1)])) _
                refine XS.iconst Xr4.here hx rfl (hb hby at_194) ?_
                show Steps p.tables e below (Tr4.setTop (mkF m 195 #[.val (.int p0), .val (.int p1), .val (.int p2), .val (.int p3), .val (.int ((p2 &&& (255 : Int32)).toUInt32.toUInt16.toUInt32.toInt32)), .val (.int ((p3 &&& (255 : Int32)).toUInt32.toUInt16.toUInt32.toInt32)), .val (.int (f_first (p1 &&& (1 : Int32)))), .val (.int ((p0 &&& (2147483647 : Int32)) % (10 : Int32))), .unset, .unset] [(.int (3 : Int32)), (.ref br1), (.ref br1)])) _
                refine XS.bipush Xr4.here hx rfl (hb hby at_195) ?_
                show Steps p.tables e below (Tr4.setTop (mkF m 197 #[.val (.int p0), .val (.int p1), .val (.int p2), .val (.int p3), .val (.int ((p2 &&& (255 : Int32)).toUInt32.toUInt16.toUInt32.toInt32)), .val (.int ((p3 &&& (255 : Int32)).toUInt32.toUInt16.toUInt32.toInt32)), .val (.int (f_first (p1 &&& (1 : Int32)))), .val (.int ((p0 &&& (2147483647 : Int32)) % (10 : Int32))), .unset, .unset] [(.int (116 : Int32)), (.int (3 : Int32)), (.ref br1), (.ref br1)])) _
                refine str5 _ ?_
                show Steps p.tables e below (Tr5.setTop (mkF m 198 #[.val (.int p0), .val (.int p1), .val (.int p2), .val (.int p3), .val (.int ((p2 &&& (255 : Int32)).toUInt32.toUInt16.toUInt32.toInt32)), .val (.int ((p3 &&& (255 : Int32)).toUInt32.toUInt16.toUInt32.toInt32)), .val (.int (f_first (p1 &&& (1 : Int32)))), .val (.int ((p0 &&& (2147483647 : Int32)) % (10 : Int32))), .unset, .unset] [(.ref br1)])) _
                refine XS.dup Xr5.here hx rfl (hb hby at_198) rfl rfl ?_
                show Steps p.tables e below (Tr5.setTop (mkF m 199 #[.val (.int p0), .val (.int p1), .val (.int p2), .val (.int p3), .val (.int ((p2 &&& (255 : Int32)).toUInt32.toUInt16.toUInt32.toInt32)), .val (.int ((p3 &&& (255 : Int32)).toUInt32.toUInt16.toUInt32.toInt32)), .val (.int (f_first (p1 &&& (1 : Int32)))), .val (.int ((p0 &&& (2147483647 : Int32)) % (10 : Int32))), .unset, .unset] [(.ref br1), (.ref br1)])) _
                refine XS.iconst Xr5.here hx rfl (hb hby at_199) ?_
                show Steps p.tables e below (Tr5.setTop (mkF m 200 #[.val (.int p0), .val (.int p1), .val (.int p2), .val (.int p3), .val (.int ((p2 &&& (255 : Int32)).toUInt32.toUInt16.toUInt32.toInt32)), .val (.int ((p3 &&& (255 : Int32)).toUInt32.toUInt16.toUInt32.toInt32)), .val (.int (f_first (p1 &&& (1 : Int32)))), .val (.int ((p0 &&& (2147483647 : Int32)) % (10 : Int32))), .unset, .unset] [(.int (4 : Int32)), (.ref br1), (.ref br1)])) _
                refine XS.bipush Xr5.here hx rfl (hb hby at_200) ?_
                show Steps p.tables e below (Tr5.setTop (mkF m 202 #[.val (.int p0), .val (.int p1), .val (.int p2), .val (.int p3), .val (.int ((p2 &&& (255 : Int32)).toUInt32.toUInt16.toUInt32.toInt32)), .val (.int ((p3 &&& (255 : Int32)).toUInt32.toUInt16.toUInt32.toInt32)), .val (.int (f_first (p1 &&& (1 : Int32)))), .val (.int ((p0 &&& (2147483647 : Int32)) % (10 : Int32))), .unset, .unset] [(.int (97 : Int32)), (.int (4 : Int32)), (.ref br1), (.ref br1)])) _
                refine str6 _ ?_
                show Steps p.tables e below (Tr6.setTop (mkF m 203 #[.val (.int p0), .val (.int p1), .val (.int p2), .val (.int p3), .val (.int ((p2 &&& (255 : Int32)).toUInt32.toUInt16.toUInt32.toInt32)), .val (.int ((p3 &&& (255 : Int32)).toUInt32.toUInt16.toUInt32.toInt32)), .val (.int (f_first (p1 &&& (1 : Int32)))), .val (.int ((p0 &&& (2147483647 : Int32)) % (10 : Int32))), .unset, .unset] [(.ref br1)])) _
                refine XS.dup Xr6.here hx rfl (hb hby at_203) rfl rfl ?_
                show Steps p.tables e below (Tr6.setTop (mkF m 204 #[.val (.int p0), .val (.int p1), .val (.int p2), .val (.int p3), .val (.int ((p2 &&& (255 : Int32)).toUInt32.toUInt16.toUInt32.toInt32)), .val (.int ((p3 &&& (255 : Int32)).toUInt32.toUInt16.toUInt32.toInt32)), .val (.int (f_first (p1 &&& (1 : Int32)))), .val (.int ((p0 &&& (2147483647 : Int32)) % (10 : Int32))), .unset, .unset] [(.ref br1), (.ref br1)])) _
                refine XS.iconst Xr6.here hx rfl (hb hby at_204) ?_
                show Steps p.tables e below (Tr6.setTop (mkF m 205 #[.val (.int p0), .val (.int p1), .val (.int p2), .val (.int p3), .val (.int ((p2 &&& (255 : Int32)).toUInt32.toUInt16.toUInt32.toInt32)), .val (.int ((p3 &&& (255 : Int32)).toUInt32.toUInt16.toUInt32.toInt32)), .val (.int (f_first (p1 &&& (1 : Int32)))), .val (.int ((p0 &&& (2147483647 : Int32)) % (10 : Int32))), .unset, .unset] [(.int (5 : Int32)), (.ref br1), (.ref br1)])) _
                refine XS.bipush Xr6.here hx rfl (hb hby at_205) ?_
                show Steps p.tables e below (Tr6.setTop (mkF m 207 #[.val (.int p0), .val (.int p1), .val (.int p2), .val (.int p3), .val (.int ((p2 &&& (255 : Int32)).toUInt32.toUInt16.toUInt32.toInt32)), .val (.int ((p3 &&& (255 : Int32)).toUInt32.toUInt16.toUInt32.toInt32)), .val (.int (f_first (p1 &&& (1 : Int32)))), .val (.int ((p0 &&& (2147483647 : Int32)) % (10 : Int32))), .unset, .unset] [(.int (108 : Int32)), (.int (5 : Int32)), (.ref br1), (.ref br1)])) _
                refine str7 _ ?_
                show Steps p.tables e below (Tr7.setTop (mkF m 208 #[.val (.int p0), .val (.int p1), .val (.int p2), .val (.int p3), .val (.int ((p2 &&& (255 : Int32)).toUInt32.toUInt16.toUInt32.toInt32)), .val (.int ((p3 &&& (255 : Int32)).toUInt32.toUInt16.toUInt32.toInt32)), .val (.int (f_first (p1 &&& (1 : Int32)))), .val (.int ((p0 &&& (2147483647 : Int32)) % (10 : Int32))), .unset, .unset] [(.ref br1)])) _
                refine XS.dup Xr7.here hx rfl (hb hby at_208) rfl rfl ?_
                show Steps p.tables e below (Tr7.setTop (mkF m 209 #[.val (.int p0), .val (.int p1), .val (.int p2), .val (.int p3), .val (.int ((p2 &&& (255 : Int32)).toUInt32.toUInt16.toUInt32.toInt32)), .val (.int ((p3 &&& (255 : Int32)).toUInt32.toUInt16.toUInt32.toInt32)), .val (.int (f_first (p1 &&& (1 : Int32)))), .val (.int ((p0 &&& (2147483647 : Int32)) % (10 : Int32))), .unset, .unset] [(.ref br1), (.ref br1)])) _
                refine XS.bipush Xr7.here hx rfl (hb hby at_209) ?_
                show Steps p.tables e below (Tr7.setTop (mkF m 211 #[.val (.int p0), .val (.int p1), .val (.int p2), .val (.int p3), .val (.int ((p2 &&& (255 : Int32)).toUInt32.toUInt16.toUInt32.toInt32)), .val (.int ((p3 &&& (255 : Int32)).toUInt32.toUInt16.toUInt32.toInt32)), .val (.int (f_first (p1 &&& (1 : Int32)))), .val (.int ((p0 &&& (2147483647 : Int32)) % (10 : Int32))), .unset, .unset] [(.int (6 : Int32)), (.ref br1), (.ref br1)])) _
                refine XS.bipush Xr7.here hx rfl (hb hby at_211) ?_
                show Steps p.tables e below (Tr7.setTop (mkF m 213 #[.val (.int p0), .val (.int p1), .val (.int p2), .val (.int p3), .val (.int ((p2 &&& (255 : Int32)).toUInt32.toUInt16.toUInt32.toInt32)), .val (.int ((p3 &&& (255 : Int32)).toUInt32.toUInt16.toUInt32.toInt32)), .val (.int (f_first (p1 &&& (1 : Int32)))), .val (.int ((p0 &&& (2147483647 : Int32)) % (10 : Int32))), .unset, .unset] [(.int (108 : Int32)), (.int (6 : Int32)), (.ref br1), (.ref br1)])) _
                refine str8 _ ?_
                show Steps p.tables e below (Tr8.setTop (mkF m 214 #[.val (.int p0), .val (.int p1), .val (.int p2), .val (.int p3), .val (.int ((p2 &&& (255 : Int32)).toUInt32.toUInt16.toUInt32.toInt32)), .val (.int ((p3 &&& (255 : Int32)).toUInt32.toUInt16.toUInt32.toInt32)), .val (.int (f_first (p1 &&& (1 : Int32)))), .val (.int ((p0 &&& (2147483647 : Int32)) % (10 : Int32))), .unset, .unset] [(.ref br1)])) _
                refine XS.dup Xr8.here hx rfl (hb hby at_214) rfl rfl ?_
                show Steps p.tables e below (Tr8.setTop (mkF m 215 #[.val (.int p0), .val (.int p1), .val (.int p2), .val (.int p3), .val (.int ((p2 &&& (255 : Int32)).toUInt32.toUInt16.toUInt32.toInt32)), .val (.int ((p3 &&& (255 : Int32)).toUInt32.toUInt16.toUInt32.toInt32)), .val (.int (f_first (p1 &&& (1 : Int32)))), .val (.int ((p0 &&& (2147483647 : Int32)) % (10 : Int32))), .unset, .unset] [(.ref br1), (.ref br1)])) _
                refine XS.bipush Xr8.here hx rfl (hb hby at_215) ?_
                show Steps p.tables e below (Tr8.setTop (mkF m 217 #[.val (.int p0), .val (.int p1), .val (.int p2), .val (.int p3), .val (.int ((p2 &&& (255 : Int32)).toUInt32.toUInt16.toUInt32.toInt32)), .val (.int ((p3 &&& (255 : Int32)).toUInt32.toUInt16.toUInt32.toInt32)), .val (.int (f_first (p1 &&& (1 : Int32)))), .val (.int ((p0 &&& (2147483647 : Int32)) % (10 : Int32))), .unset, .unset] [(.int (7 : Int32)), (.ref br1), (.ref br1)])) _
                refine XS.bipush Xr8.here hx rfl (hb hby at_217) ?_
                show Steps p.tables e below (Tr8.setTop (mkF m 219 #[.val (.int p0), .val (.int p1), .val (.int p2), .val (.int p3), .val (.int ((p2 &&& (255 : Int32)).toUInt32.toUInt16.toUInt32.toInt32)), .val (.int ((p3 &&& (255 : Int32)).toUInt32.toUInt16.toUInt32.toInt32)), .val (.int (f_first (p1 &&& (1 : Int32)))), .val (.int ((p0 &&& (2147483647 : Int32)) % (10 : Int32))), .unset, .unset] [(.int (109 : Int32)), (.int (7 : Int32)), (.ref br1), (.ref br1)])) _
                refine str9 _ ?_
                show Steps p.tables e below (Tr9.setTop (mkF m 220 #[.val (.int p0), .val (.int p1), .val (.int p2), .val (.int p3), .val (.int ((p2 &&& (255 : Int32)).toUInt32.toUInt16.toUInt32.toInt32)), .val (.int ((p3 &&& (255 : Int32)).toUInt32.toUInt16.toUInt32.toInt32)), .val (.int (f_first (p1 &&& (1 : Int32)))), .val (.int ((p0 &&& (2147483647 : Int32)) % (10 : Int32))), .unset, .unset] [(.ref br1)])) _
                refine XS.dup Xr9.here hx rfl (hb hby at_220) rfl rfl ?_
                show Steps p.tables e below (Tr9.setTop (mkF m 221 #[.val (.int p0), .val (.int p1), .val (.int p2), .val (.int p3), .val (.int ((p2 &&& (255 : Int32)).toUInt32.toUInt16.toUInt32.toInt32)), .val (.int ((p3 &&& (255 : Int32)).toUInt32.toUInt16.toUInt32.toInt32)), .val (.int (f_first (p1 &&& (1 : Int32)))), .val (.int ((p0 &&& (2147483647 : Int32)) % (10 : Int32))), .unset, .unset] [(.ref br1), (.ref br1)])) _
                refine XS.bipush Xr9.here hx rfl (hb hby at_221) ?_
                show Steps p.tables e below (Tr9.setTop (mkF m 223 #[.val (.int p0), .val (.int p1), .val (.int p2), .val (.int p3), .val (.int ((p2 &&& (255 : Int32)).toUInt32.toUInt16.toUInt32.toInt32)), .val (.int ((p3 &&& (255 : Int32)).toUInt32.toUInt16.toUInt32.toInt32)), .val (.int (f_first (p1 &&& (1 : Int32)))), .val (.int ((p0 &&& (2147483647 : Int32)) % (10 : Int32))), .unset, .unset] [(.int (8 : Int32)), (.ref br1), (.ref br1)])) _
                refine XS.bipush Xr9.here hx rfl (hb hby at_223) ?_
                show Steps p.tables e below (Tr9.setTop (mkF m 225 #[.val (.int p0), .val (.int p1), .val (.int p2), .val (.int p3), .val (.int ((p2 &&& (255 : Int32)).toUInt32.toUInt16.toUInt32.toInt32)), .val (.int ((p3 &&& (255 : Int32)).toUInt32.toUInt16.toUInt32.toInt32)), .val (.int (f_first (p1 &&& (1 : Int32)))), .val (.int ((p0 &&& (2147483647 : Int32)) % (10 : Int32))), .unset, .unset] [(.int (101 : Int32)), (.int (8 : Int32)), (.ref br1), (.ref br1)])) _
                refine str10 _ ?_
                show Steps p.tables e below (Tr10.setTop (mkF m 226 #[.val (.int p0), .val (.int p1), .val (.int p2), .val (.int p3), .val (.int ((p2 &&& (255 : Int32)).toUInt32.toUInt16.toUInt32.toInt32)), .val (.int ((p3 &&& (255 : Int32)).toUInt32.toUInt16.toUInt32.toInt32)), .val (.int (f_first (p1 &&& (1 : Int32)))), .val (.int ((p0 &&& (2147483647 : Int32)) % (10 : Int32))), .unset, .unset] [(.ref br1)])) _
                refine XS.dup Xr10.here hx rfl (hb hby at_226) rfl rfl ?_
                show Steps p.tables e below (Tr10.setTop (mkF m 227 #[.val (.int p0), .val (.int p1), .val (.int p2), .val (.int p3), .val (.int ((p2 &&& (255 : Int32)).toUInt32.toUInt16.toUInt32.toInt32)), .val (.int ((p3 &&& (255 : Int32)).toUInt32.toUInt16.toUInt32.toInt32)), .val (.int (f_first (p1 &&& (1 : Int32)))), .val (.int ((p0 &&& (2147483647 : Int32)) % (10 : Int32))), .unset, .unset] [(.ref br1), (.ref br1)])) _
                refine XS.bipush Xr10.here hx rfl (hb hby at_227) ?_
                show Steps p.tables e below (Tr10.setTop (mkF m 229 #[.val (.int p0), .val (.int p1), .val (.int p2), .val (.int p3), .val (.int ((p2 &&& (255 : Int32)).toUInt32.toUInt16.toUInt32.toInt32)), .val (.int ((p3 &&& (255 : Int32)).toUInt32.toUInt16.toUInt32.toInt32)), .val (.int (f_first (p1 &&& (1 : Int32)))), .val (.int ((p0 &&& (2147483647 : Int32)) % (10 : Int32))), .unset, .unset] [(.int (9 : Int32)), (.ref br1), (.ref br1)])) _
                refine XS.bipush Xr10.here hx rfl (hb hby at_229) ?_
                show Steps p.tables e below (Tr10.setTop (mkF m 231 #[.val (.int p0), .val (.int p1), .val (.int p2), .val (.int p3), .val (.int ((p2 &&& (255 : Int32)).toUInt32.toUInt16.toUInt32.toInt32)), .val (.int ((p3 &&& (255 : Int32)).toUInt32.toUInt16.toUInt32.toInt32)), .val (.int (f_first (p1 &&& (1 : Int32)))), .val (.int ((p0 &&& (2147483647 : Int32)) % (10 : Int32))), .unset, .unset] [(.int (110 : Int32)), (.int (9 : Int32)), (.ref br1), (.ref br1)])) _
                refine str11 _ ?_
                show Steps p.tables e below (Tr11.setTop (mkF m 232 #[.val (.int p0), .val (.int p1), .val (.int p2), .val (.int p3), .val (.int ((p2 &&& (255 : Int32)).toUInt32.toUInt16.toUInt32.toInt32)), .val (.int ((p3 &&& (255 : Int32)).toUInt32.toUInt16.toUInt32.toInt32)), .val (.int (f_first (p1 &&& (1 : Int32)))), .val (.int ((p0 &&& (2147483647 : Int32)) % (10 : Int32))), .unset, .unset] [(.ref br1)])) _
                refine XS.dup Xr11.here hx rfl (hb hby at_232) rfl rfl ?_
                show Steps p.tables e below (Tr11.setTop (mkF m 233 #[.val (.int p0), .val (.int p1), .val (.int p2), .val (.int p3), .val (.int ((p2 &&& (255 : Int32)).toUInt32.toUInt16.toUInt32.toInt32)), .val (.int ((p3 &&& (255 : Int32)).toUInt32.toUInt16.toUInt32.toInt32)), .val (.int (f_first (p1 &&& (1 : Int32)))), .val (.int ((p0 &&& (2147483647 : Int32)) % (10 : Int32))), .unset, .unset] [(.ref br1), (.ref br1)])) _
                refine XS.bipush Xr11.here hx rfl (hb hby at_233) ?_
                show Steps p.tables e below (Tr11.setTop (mkF m 235 #[.val (.int p0), .val (.int p1), .val (.int p2), .val (.int p3), .val (.int ((p2 &&& (255 : Int32)).toUInt32.toUInt16.toUInt32.toInt32)), .val (.int ((p3 &&& (255 : Int32)).toUInt32.toUInt16.toUInt32.toInt32)), .val (.int (f_first (p1 &&& (1 : Int32)))), .val (.int ((p0 &&& (2147483647 : Int32)) % (10 : Int32))), .unset, .unset] [(.int (10 : Int32)), (.ref br1), (.ref br1)])) _
                refine XS.bipush Xr11.here hx rfl (hb hby at_235) ?_
                show Steps p.tables e below (Tr11.setTop (mkF m 237 #[.val (.int p0), .val (.int p1), .val (.int p2), .val (.int p3), .val (.int ((p2 &&& (255 : Int32)).toUInt32.toUInt16.toUInt32.toInt32)), .val (.int ((p3 &&& (255 : Int32)).toUInt32.toUInt16.toUInt32.toInt32)), .val (.int (f_first (p1 &&& (1 : Int32)))), .val (.int ((p0 &&& (2147483647 : Int32)) % (10 : Int32))), .unset, .unset] [(.int (116 : Int32)), (.int (10 : Int32)), (.ref br1), (.ref br1)])) _
                refine str12 _ ?_
                show Steps p.tables e below (Tr12.setTop (mkF m 238 #[.val (.int p0), .val (.int p1), .val (.int p2), .val (.int p3), .val (.int ((p2 &&& (255 : Int32)).toUInt32.toUInt16.toUInt32.toInt32)), .val (.int ((p3 &&& (255 : Int32)).toUInt32.toUInt16.toUInt32.toInt32)), .val (.int (f_first (p1 &&& (1 : Int32)))), .val (.int ((p0 &&& (2147483647 : Int32)) % (10 : Int32))), .unset, .unset] [(.ref br1)])) _
                refine XS.dup Xr12.here hx rfl (hb hby at_238) rfl rfl ?_
                show Steps p.tables e below (Tr12.setTop (mkF m 239 #[.val (.int p0), .val (.int p1), .val (.int p2), .val (.int p3), .val (.int ((p2 &&& (255 : Int32)).toUInt32.toUInt16.toUInt32.toInt32)), .val (.int ((p3 &&& (255 : Int32)).toUInt32.toUInt16.toUInt32.toInt32)), .val (.int (f_first (p1 &&& (1 : Int32)))), .val (.int ((p0 &&& (2147483647 : Int32)) % (10 : Int32))), .unset, .unset] [(.ref br1), (.ref br1)])) _
                refine XS.bipush Xr12.here hx rfl (hb hby at_239) ?_
                show Steps p.tables e below (Tr12.setTop (mkF m 241 #[.val (.int p0), .val (.int p1), .val (.int p2), .val (.int p3), .val (.int ((p2 &&& (255 : Int32)).toUInt32.toUInt16.toUInt32.toInt32)), .val (.int ((p3 &&& (255 : Int32)).toUInt32.toUInt16.toUInt32.toInt32)), .val (.int (f_first (p1 &&& (1 : Int32)))), .val (.int ((p0 &&& (2147483647 : Int32)) % (10 : Int32))), .unset, .unset] [(.int (11 : Int32)), (.ref br1), (.ref br1)])) _
                refine XS.bipush Xr12.here hx rfl (hb hby at_241) ?_
                show Steps p.tables e below (Tr12.setTop (mkF m 243 #[.val (.int p0), .val (.int p1), .val (.int p2), .val (.int p3), .val (.int ((p2 &&& (255 : Int32)).toUInt32.toUInt16.toUInt32.toInt32)), .val (.int ((p3 &&& (255 : Int32)).toUInt32.toUInt16.toUInt32.toInt32)), .val (.int (f_first (p1 &&& (1 : Int32)))), .val (.int ((p0 &&& (2147483647 : Int32)) % (10 : Int32))), .unset, .unset] [(.int (115 : Int32)), (.int (11 : Int32)), (.ref br1), (.ref br1)])) _
                refine str13 _ ?_
                show Steps p.tables e below (Tr13.setTop (mkF m 244 #[.val (.int p0), .val (.int p1), .val (.int p2), .val (.int p3), .val (.int ((p2 &&& (255 : Int32)).toUInt32.toUInt16.toUInt32.toInt32)), .val (.int ((p3 &&& (255 : Int32)).toUInt32.toUInt16.toUInt32.toInt32)), .val (.int (f_first (p1 &&& (1 : Int32)))), .val (.int ((p0 &&& (2147483647 : Int32)) % (10 : Int32))), .unset, .unset] [(.ref br1)])) _
                refine XS.astore Xr13.here hx rfl (hb hby at_244) rfl rfl (l' := #[.val (.int p0), .val (.int p1), .val (.int p2), .val (.int p3), .val (.int ((p2 &&& (255 : Int32)).toUInt32.toUInt16.toUInt32.toInt32)), .val (.int ((p3 &&& (255 : Int32)).toUInt32.toUInt16.toUInt32.toInt32)), .val (.int (f_first (p1 &&& (1 : Int32)))), .val (.int ((p0 &&& (2147483647 : Int32)) % (10 : Int32))), .unset, .val (.ref br1)]) rfl ?_
                show Steps p.tables e below (Tr13.setTop (mkF m 246 #[.val (.int p0), .val (.int p1), .val (.int p2), .val (.int p3), .val (.int ((p2 &&& (255 : Int32)).toUInt32.toUInt16.toUInt32.toInt32)), .val (.int ((p3 &&& (255 : Int32)).toUInt32.toUInt16.toUInt32.toInt32)), .val (.int (f_first (p1 &&& (1 : Int32)))), .val (.int ((p0 &&& (2147483647 : Int32)) % (10 : Int32))), .unset, .val (.ref br1)] [])) _
                refine XS.aload Xr13.here hx rfl (hb hby at_246) rfl rfl ?_
                show Steps p.tables e below (Tr13.setTop (mkF m 248 #[.val (.int p0), .val (.int p1), .val (.int p2), .val (.int p3), .val (.int ((p2 &&& (255 : Int32)).toUInt32.toUInt16.toUInt32.toInt32)), .val (.int ((p3 &&& (255 : Int32)).toUInt32.toUInt16.toUInt32.toInt32)), .val (.int (f_first (p1 &&& (1 : Int32)))), .val (.int ((p0 &&& (2147483647 : Int32)) % (10 : Int32))), .unset, .val (.ref br1)] [(.ref br1)])) _
                refine XS.iloadN Xr13.here hx rfl (hb hby at_248) rfl ?_
                show Steps p.tables e below (Tr13.setTop (mkF m 249 #[.val (.int p0), .val (.int p1), .val (.int p2), .val (.int p3), .val (.int ((p2 &&& (255 : Int32)).toUInt32.toUInt16.toUInt32.toInt32)), .val (.int ((p3 &&& (255 : Int32)).toUInt32.toUInt16.toUInt32.toInt32)), .val (.int (f_first (p1 &&& (1 : Int32)))), .val (.int ((p0 &&& (2147483647 : Int32)) % (10 : Int32))), .unset, .val (.ref br1)] [(.int p1), (.ref br1)])) _
                refine Xr13.ldcInt hx hown (mvT hZ (hw _ (List.mem_of_getElem? (i := 0) rfl))) (g := (mkF m 249 #[.val (.int p0), .val (.int p1), .val (.int p2), .val (.int p3), .val (.int ((p2 &&& (255 : Int32)).toUInt32.toUInt16.toUInt32.toInt32)), .val (.int ((p3 &&& (255 : Int32)).toUInt32.toUInt16.toUInt32.toInt32)), .val (.int (f_first (p1 &&& (1 : Int32)))), .val (.int ((p0 &&& (2147483647 : Int32)) % (10 : Int32))), .unset, .val (.ref br1)] [(.int p1), (.ref br1)])) rfl (hb hby at_249) _ ?_
                show Steps p.tables e below (Tr13.setTop (mkF m 251 #[.val (.int p0), .val (.int p1), .val (.int p2), .val (.int p3), .val (.int ((p2 &&& (255 : Int32)).toUInt32.toUInt16.toUInt32.toInt32)), .val (.int ((p3 &&& (255 : Int32)).toUInt32.toUInt16.toUInt32.toInt32)), .val (.int (f_first (p1 &&& (1 : Int32)))), .val (.int ((p0 &&& (2147483647 : Int32)) % (10 : Int32))), .unset, .val (.ref br1)] [(.int (2147483647 : Int32)), (.int p1), (.ref br1)])) _
                refine XS.iand Xr13.here hx rfl (hb hby at_251) rfl ?_
                show Steps p.tables e below (Tr13.setTop (mkF m 252 #[.val (.int p0), .val (.int p1), .val (.int p2), .val (.int p3), .val (.int ((p2 &&& (255 : Int32)).toUInt32.toUInt16.toUInt32.toInt32)), .val (.int ((p3 &&& (255 : Int32)).toUInt32.toUInt16.toUInt32.toInt32)), .val (.int (f_first (p1 &&& (1 : Int32)))), .val (.int ((p0 &&& (2147483647 : Int32)) % (10 : Int32))), .unset, .val (.ref br1)] [(.int (p1 &&& (2147483647 : Int32))), (.ref br1)])) _
                refine XS.bipush Xr13.here hx rfl (hb hby at_252) ?_
                show Steps p.tables e below (Tr13.setTop (mkF m 254 #[.val (.int p0), .val (.int p1), .val (.int p2), .val (.int p3), .val (.int ((p2 &&& (255 : Int32)).toUInt32.toUInt16.toUInt32.toInt32)), .val (.int ((p3 &&& (255 : Int32)).toUInt32.toUInt16.toUInt32.toInt32)), .val (.int (f_first (p1 &&& (1 : Int32)))), .val (.int ((p0 &&& (2147483647 : Int32)) % (10 : Int32))), .unset, .val (.ref br1)] [(.int (12 : Int32)), (.int (p1 &&& (2147483647 : Int32))), (.ref br1)])) _
                refine Jvm.RoadKit.iremM Xr13 hx rfl (hb hby at_254) rfl (by decide) ?_
                rw [ej]
                show Steps p.tables e below (Tr13.setTop (mkF m 255 #[.val (.int p0), .val (.int p1), .val (.int p2), .val (.int p3), .val (.int ((p2 &&& (255 : Int32)).toUInt32.toUInt16.toUInt32.toInt32)), .val (.int ((p3 &&& (255 : Int32)).toUInt32.toUInt16.toUInt32.toInt32)), .val (.int (f_first (p1 &&& (1 : Int32)))), .val (.int ((p0 &&& (2147483647 : Int32)) % (10 : Int32))), .unset, .val (.ref br1)] [(.int j), (.ref br1)])) _
                refine XS.iload Xr13.here hx rfl (hb hby at_255) rfl ?_
                show Steps p.tables e below (Tr13.setTop (mkF m 257 #[.val (.int p0), .val (.int p1), .val (.int p2), .val (.int p3), .val (.int ((p2 &&& (255 : Int32)).toUInt32.toUInt16.toUInt32.toInt32)), .val (.int ((p3 &&& (255 : Int32)).toUInt32.toUInt16.toUInt32.toInt32)), .val (.int (f_first (p1 &&& (1 : Int32)))), .val (.int ((p0 &&& (2147483647 : Int32)) % (10 : Int32))), .unset, .val (.ref br1)] [(.int ((p2 &&& (255 : Int32)).toUInt32.toUInt16.toUInt32.toInt32)), (.int j), (.ref br1)])) _
                refine str14 _ ?_
                show Steps p.tables e below (Tr14.setTop (mkF m 258 #[.val (.int p0), .val (.int p1), .val (.int p2), .val (.int p3), .val (.int ((p2 &&& (255 : Int32)).toUInt32.toUInt16.toUInt32.toInt32)), .val (.int ((p3 &&& (255 : Int32)).toUInt32.toUInt16.toUInt32.toInt32)), .val (.int (f_first (p1 &&& (1 : Int32)))), .val (.int ((p0 &&& (2147483647 : Int32)) % (10 : Int32))), .unset, .val (.ref br1)] [])) _
                refine str15 _ ?_
                show Steps p.tables e below (Tr15.setTop (mkF m 261 #[.val (.int p0), .val (.int p1), .val (.int p2), .val (.int p3), .val (.int ((p2 &&& (255 : Int32)).toUInt32.toUInt16.toUInt32.toInt32)), .val (.int ((p3 &&& (255 : Int32)).toUInt32.toUInt16.toUInt32.toInt32)), .val (.int (f_first (p1 &&& (1 : Int32)))), .val (.int ((p0 &&& (2147483647 : Int32)) % (10 : Int32))), .unset, .val (.ref br1)] [(.ref br15)])) _
                refine XS.dup Xr15.here hx rfl (hb hby at_261) rfl rfl ?_
                show Steps p.tables e below (Tr15.setTop (mkF m 262 #[.val (.int p0), .val (.int p1), .val (.int p2), .val (.int p3), .val (.int ((p2 &&& (255 : Int32)).toUInt32.toUInt16.toUInt32.toInt32)), .val (.int ((p3 &&& (255 : Int32)).toUInt32.toUInt16.toUInt32.toInt32)), .val (.int (f_first (p1 &&& (1 : Int32)))), .val (.int ((p0 &&& (2147483647 : Int32)) % (10 : Int32))), .unset, .val (.ref br1)] [(.ref br15), (.ref br15)])) _
                refine XS.aload Xr15.here hx rfl (hb hby at_262) rfl rfl ?_
                show Steps p.tables e below (Tr15.setTop (mkF m 264 #[.val (.int p0), .val (.int p1), .val (.int p2), .val (.int p3), .val (.int ((p2 &&& (255 : Int32)).toUInt32.toUInt16.toUInt32.toInt32)), .val (.int ((p3 &&& (255 : Int32)).toUInt32.toUInt16.toUInt32.toInt32)), .val (.int (f_first (p1 &&& (1 : Int32)))), .val (.int ((p0 &&& (2147483647 : Int32)) % (10 : Int32))), .unset, .val (.ref br1)] [(.ref br1), (.ref br15), (.ref br15)])) _
                refine str16.trans ?_
                show Steps p.tables e below (Tr16.setTop (mkF m 267 #[.val (.int p0), .val (.int p1), .val (.int p2), .val (.int p3), .val (.int ((p2 &&& (255 : Int32)).toUInt32.toUInt16.toUInt32.toInt32)), .val (.int ((p3 &&& (255 : Int32)).toUInt32.toUInt16.toUInt32.toInt32)), .val (.int (f_first (p1 &&& (1 : Int32)))), .val (.int ((p0 &&& (2147483647 : Int32)) % (10 : Int32))), .unset, .val (.ref br1)] [(.ref br15)])) _
                refine XS.astore Xr16.here hx rfl (hb hby at_267) rfl rfl (l' := #[.val (.int p0), .val (.int p1), .val (.int p2), .val (.int p3), .val (.int ((p2 &&& (255 : Int32)).toUInt32.toUInt16.toUInt32.toInt32)), .val (.int ((p3 &&& (255 : Int32)).toUInt32.toUInt16.toUInt32.toInt32)), .val (.int (f_first (p1 &&& (1 : Int32)))), .val (.int ((p0 &&& (2147483647 : Int32)) % (10 : Int32))), .val (.ref br15), .val (.ref br1)]) rfl ?_
                show Steps p.tables e below (Tr16.setTop (mkF m 269 #[.val (.int p0), .val (.int p1), .val (.int p2), .val (.int p3), .val (.int ((p2 &&& (255 : Int32)).toUInt32.toUInt16.toUInt32.toInt32)), .val (.int ((p3 &&& (255 : Int32)).toUInt32.toUInt16.toUInt32.toInt32)), .val (.int (f_first (p1 &&& (1 : Int32)))), .val (.int ((p0 &&& (2147483647 : Int32)) % (10 : Int32))), .val (.ref br15), .val (.ref br1)] [])) _
                refine XS.goto Xr16.here hx rfl (pc0 := 269) (pc' := 632) rfl (hb hby at_269) (by decide) (by decide) ?_
                show Steps p.tables e below (Tr16.setTop (mkF m 632 #[.val (.int p0), .val (.int p1), .val (.int p2), .val (.int p3), .val (.int ((p2 &&& (255 : Int32)).toUInt32.toUInt16.toUInt32.toInt32)), .val (.int ((p3 &&& (255 : Int32)).toUInt32.toUInt16.toUInt32.toInt32)), .val (.int (f_first (p1 &&& (1 : Int32)))), .val (.int ((p0 &&& (2147483647 : Int32)) % (10 : Int32))), .val (.ref br15), .val (.ref br1)] [])) _
                exact hst
              show Steps p.tables e below (s₁.setTop (mkF m 19 #[.val (.int p0), .val (.int p1), .val (.int p2), .val (.int p3), .val (.int ((p2 &&& (255 : Int32)).toUInt32.toUInt16.toUInt32.toInt32)), .val (.int ((p3 &&& (255 : Int32)).toUInt32.toUInt16.toUInt32.toInt32)), .unset, .unset, .unset, .unset] [(.int (p1 &&& (1 : Int32)))])) _
              by_cases hc19_0 : (p1 &&& (1 : Int32)) = (0 : Int32)
              · refine XS.ifNo X0.here hx rfl (hb hby at_19) rfl ((if0 _ _).trans (teq hc19_0).2) ?_
                show Steps p.tables e below (s₁.setTop (mkF m 22 #[.val (.int p0), .val (.int p1), .val (.int p2), .val (.int p3), .val (.int ((p2 &&& (255 : Int32)).toUInt32.toUInt16.toUInt32.toInt32)), .val (.int ((p3 &&& (255 : Int32)).toUInt32.toUInt16.toUInt32.toInt32)), .unset, .unset, .unset, .unset] [])) _
                refine XS.iconst X0.here hx rfl (hb hby at_22) ?_
                show Steps p.tables e below (s₁.setTop (mkF m 23 #[.val (.int p0), .val (.int p1), .val (.int p2), .val (.int p3), .val (.int ((p2 &&& (255 : Int32)).toUInt32.toUInt16.toUInt32.toInt32)), .val (.int ((p3 &&& (255 : Int32)).toUInt32.toUInt16.toUInt32.toInt32)), .unset, .unset, .unset, .unset] [(.int (1 : Int32))])) _
                refine XS.goto X0.here hx rfl (pc0 := 23) (pc' := 27) rfl (hb hby at_23) (by decide) (by decide) ?_
                show Steps p.tables e below (s₁.setTop (mkF m 27 #[.val (.int p0), .val (.int p1), .val (.int p2), .val (.int p3), .val (.int ((p2 &&& (255 : Int32)).toUInt32.toUInt16.toUInt32.toInt32)), .val (.int ((p3 &&& (255 : Int32)).toUInt32.toUInt16.toUInt32.toInt32)), .unset, .unset, .unset, .unset] [(.int (1 : Int32))])) _
                have hf : f_first (p1 &&& (1 : Int32)) = (1 : Int32) := by unfold f_first; rw [if_pos hc19_0]
                rw [hf] at key
                exact key
              · refine XS.ifYes X0.here hx rfl (pc0 := 19) (pc' := 26) rfl (hb hby at_19) rfl ((if0 _ _).trans (feq hc19_0).2) (by decide) (by decide) ?_
                show Steps p.tables e below (s₁.setTop (mkF m 26 #[.val (.int p0), .val (.int p1), .val (.int p2), .val (.int p3), .val (.int ((p2 &&& (255 : Int32)).toUInt32.toUInt16.toUInt32.toInt32)), .val (.int ((p3 &&& (255 : Int32)).toUInt32.toUInt16.toUInt32.toInt32)), .unset, .unset, .unset, .unset] [])) _
                refine XS.iconst X0.here hx rfl (hb hby at_26) ?_
                show Steps p.tables e below (s₁.setTop (mkF m 27 #[.val (.int p0), .val (.int p1), .val (.int p2), .val (.int p3), .val (.int ((p2 &&& (255 : Int32)).toUInt32.toUInt16.toUInt32.toInt32)), .val (.int ((p3 &&& (255 : Int32)).toUInt32.toUInt16.toUInt32.toInt32)), .unset, .unset, .unset, .unset] [(.int (0 : Int32))])) _
                have hf : f_first (p1 &&& (1 : Int32)) = (0 : Int32) := by unfold f_first; rw [if_neg hc19_0]
                rw [hf] at key
                exact key
            · by_cases hcase6 : ((p0 &&& (2147483647 : Int32)) % (10 : Int32)) = (6 : Int32)
              · by_cases hff : f_first (p1 &&& (1 : Int32)) = (0 : Int32)
                · have O0 : Old Z n0 h0 := ⟨by rw [← hU, hh, hn0], by rw [← hU, hh]; exact ⟨Nat.le_refl _, fun _ _ q => q⟩⟩
                  obtain ⟨Tr1, hr1, kr1, Xr1, er1, Er1, Ar1, str1⟩ := newP X0 hx hZ (hw _ (List.mem_of_getElem? (i := 37) rfl)) e0 (g := (mkF m 354 #[.val (.int p0), .val (.int p1), .val (.int p2), .val (.int p3), .val (.int ((p2 &&& (255 : Int32)).toUInt32.toUInt16.toUInt32.toInt32)), .val (.int ((p3 &&& (255 : Int32)).toUInt32.toUInt16.toUInt32.toInt32)), .val (.int (f_first (p1 &&& (1 : Int32)))), .val (.int ((p0 &&& (2147483647 : Int32)) % (10 : Int32))), .unset, .unset] [(.int (13 : Int32))])) rfl (hb hby at_354) rfl (by decide) (cap := 13) (by decide) (by decide) (by decide) (by decide)
                  obtain ⟨br1, gr1⟩ : ∃ z, z = h0.size := ⟨_, rfl⟩
                  rw [← gr1] at Ar1 str1
                  have Vr1 : Arv Z hr1 br1 kr1 .char (13 : Int32) [(.int (0 : Int32)), (.int (0 : Int32)), (.int (0 : Int32)), (.int (0 : Int32)), (.int (0 : Int32)), (.int (0 : Int32)), (.int (0 : Int32)), (.int (0 : Int32)), (.int (0 : Int32)), (.int (0 : Int32)), (.int (0 : Int32)), (.int (0 : Int32)), (.int (0 : Int32))] (.int (0 : Int32)) := (Arv.new Ar1 (by decide)).pad (pad_rep [] (.int (0 : Int32)) 13)
                  have g_br1 : n0 ≤ br1 := Nat.le_trans Z0 (Nat.le_of_eq gr1.symm)
                  have Zr1 : n0 ≤ hr1.size := Nat.le_trans Z0 Er1.1
                  have Or1 := O0.ext Er1
                  have G0 := hH0.ext Er1
                  obtain ⟨cr2, Ar2, qr2, Sr2, Mr2, Hr2, Ur2⟩ := id Vr1
                  obtain ⟨Tr2, hr2, Xr2, er2, Wr2, str2⟩ := stC Xr1 hx hZ er1 Ar2 (j := (0 : Int32)) (inb_of Sr2 ⟨(by decide : ¬ ((0 : Int32) < (0 : Int32))), (by decide : (0 : Int32) < (13 : Int32))⟩) (g := (mkF m 360 #[.val (.int p0), .val (.int p1), .val (.int p2), .val (.int p3), .val (.int ((p2 &&& (255 : Int32)).toUInt32.toUInt16.toUInt32.toInt32)), .val (.int ((p3 &&& (255 : Int32)).toUInt32.toUInt16.toUInt32.toInt32)), .val (.int (f_first (p1 &&& (1 : Int32)))), .val (.int ((p0 &&& (2147483647 : Int32)) % (10 : Int32))), .unset, .unset] [(.int (105 : Int32)), (.int (0 : Int32)), (.ref br1), (.ref br1)])) rfl rfl (hb hby at_360)
                  have Nr2 := Fr.snoc Xr2 N0 g_br1
                  have Vr2 : Arv Z hr2 br1 kr1 .char (13 : Int32) [(.int (nar .char (105 : Int32))), (.int (0 : Int32)), (.int (0 : Int32)), (.int (0 : Int32)), (.int (0 : Int32)), (.int (0 : Int32)), (.int (0 : Int32)), (.int (0 : Int32)), (.int (0 : Int32)), (.int (0 : Int32)), (.int (0 : Int32)), (.int (0 : Int32)), (.int (0 : Int32))] (.int (0 : Int32)) := Arv.set Ar2 qr2 Sr2 Mr2 Hr2 Ur2 (fits_nar_char _) Wr2 0 rfl (Nat.le_of_ble_eq_true rfl)
                  have Zr2 : n0 ≤ hr2.size := Nat.le_trans Zr1 (Keep.of_wr Wr2).1
                  obtain ⟨Lpr2, Xr2, Nr2⟩ := own_pack Xr2 Nr2
                  have Or2 := Or1.wr Wr2 g_br1
                  have Gr2 := G0.wr Wr2 (Safe.arr hZ.alike Ar2 (by decide))
                  obtain ⟨cr3, Ar3, qr3, Sr3, Mr3, Hr3, Ur3⟩ := id Vr2
                  obtain ⟨Tr3, hr3, Xr3, er3, Wr3, str3⟩ := stC Xr2 hx hZ er2 Ar3 (j := (1 : Int32)) (inb_of Sr3 ⟨(by decide : ¬ ((1 : Int32) < (0 : Int32))), (by decide : (1 : Int32) < (13 : Int32))⟩) (g := (mkF m 365 #[.val (.int p0), .val (.int p1), .val (.int p2), .val (.int p3), .val (.int ((p2 &&& (255 : Int32)).toUInt32.toUInt16.toUInt32.toInt32)), .val (.int ((p3 &&& (255 : Int32)).toUInt32.toUInt16.toUInt32.toInt32)), .val (.int (f_first (p1 &&& (1 : Int32)))), .val (.int ((p0 &&& (2147483647 : Int32)) % (10 : Int32))), .unset, .unset] [(.int (110 : Int32)), (.int (1 : Int32)), (.ref br1), (.ref br1)])) rfl rfl (hb hby at_365)
                  have Nr3 := Fr.snoc Xr3 Nr2 g_br1
                  have Vr3 : Arv Z hr3 br1 kr1 .char (13 : Int32) [(.int (nar .char (105 : Int32))), (.int (nar .char (110 : Int32))), (.int (0 : Int32)), (.int (0 : Int32)), (.int (0 : Int32)), (.int (0 : Int32)), (.int (0 : Int32)), (.int (0 : Int32)), (.int (0 : Int32)), (.int (0 : Int32)), (.int (0 : Int32)), (.int (0 : Int32)), (.int (0 : Int32))] (.int (0 : Int32)) := Arv.set Ar3 qr3 Sr3 Mr3 Hr3 Ur3 (fits_nar_char _) Wr3 1 rfl (Nat.le_of_ble_eq_true rfl)
                  have Zr3 : n0 ≤ hr3.size := Nat.le_trans Zr2 (Keep.of_wr Wr3).1
                  obtain ⟨Lpr3, Xr3, Nr3⟩ := own_pack Xr3 Nr3
                  have Or3 := Or2.wr Wr3 g_br1
                  have Gr3 := Gr2.wr Wr3 (Safe.arr hZ.alike Ar3 (by decide))
                  obtain ⟨cr4, Ar4, qr4, Sr4, Mr4, Hr4, Ur4⟩ := id Vr3
                  obtain ⟨Tr4, hr4, Xr4, er4, Wr4, str4⟩ := stC Xr3 hx hZ er3 Ar4 (j := (2 : Int32)) (inb_of Sr4 ⟨(by decide : ¬ ((2 : Int32) < (0 : Int32))), (by decide : (2 : Int32) < (13 : Int32))⟩) (g := (mkF m 370 #[.val (.int p0), .val (.int p1), .val (.int p2), .val (.int p3), .val (.int ((p2 &&& (255 : Int32)).toUInt32.toUInt16.toUInt32.toInt32)), .val (.int ((p3 &&& (255 : Int32)).toUInt32.toUInt16.toUInt32.toInt32)), .val (.int (f_first (p1 &&& (1 : Int32)))), .val (.int ((p0 &&& (2147483647 : Int32)) % (10 : Int32))), .unset, .unset] [(.int (115 : Int32)), (.int (2 : Int32)), (.ref br1), (.ref br1)])) rfl rfl (hb hby at_370)
                  have Nr4 := Fr.snoc Xr4 Nr3 g_br1
                  have Vr4 : Arv Z hr4 br1 kr1 .char (13 : Int32) [(.int (nar .char (105 : Int32))), (.int (nar .char (110 : Int32))), (.int (nar .char (115 : Int32))), (.int (0 : Int32)), (.int (0 : Int32)), (.int (0 : Int32)), (.int (0 : Int32)), (.int (0 : Int32)), (.int (0 : Int32)), (.int (0 : Int32)), (.int (0 : Int32)), (.int (0 : Int32)), (.int (0 : Int32))] (.int (0 : Int32)) := Arv.set Ar4 qr4 Sr4 Mr4 Hr4 Ur4 (fits_nar_char _) Wr4 2 rfl (Nat.le_of_ble_eq_true rfl)
                  have Zr4 : n0 ≤ hr4.size := Nat.le_trans Zr3 (Keep.of_wr Wr4).1
                  obtain ⟨Lpr4, Xr4, Nr4⟩ := own_pack Xr4 Nr4
                  have Or4 := Or3.wr Wr4 g_br1
                  have Gr4 := Gr3.wr Wr4 (Safe.arr hZ.alike Ar4 (by decide))
                  obtain ⟨cr5, Ar5, qr5, Sr5, Mr5, Hr5, Ur5⟩ := id Vr4
                  obtain ⟨Tr5, hr5, Xr5, er5, Wr5, str5⟩ := stC Xr4 hx hZ er4 Ar5 (j := (3 : Int32)) (inb_of Sr5 ⟨(by decide : ¬ ((3 : Int32) < (0 : Int32))), (by decide : (3 : Int32) < (13 : Int32))⟩) (g := (mkF m 375 #[.val (.int p0), .val (.int p1), .val (.int p2), .val (.int p3), .val (.int ((p2 &&& (255 : Int32)).toUInt32.toUInt16.toUInt32.toInt32)), .val (.int ((p3 &&& (255 : Int32)).toUInt32.toUInt16.toUInt32.toInt32)), .val (.int (f_first (p1 &&& (1 : Int32)))), .val (.int ((p0 &&& (2147483647 : Int32)) % (10 : Int32))), .unset, .unset] [(.int (116 : Int32)), (.int (3 : Int32)), (.ref br1), (.ref br1)])) rfl rfl (hb hby at_375)
                  have Nr5 := Fr.snoc Xr5 Nr4 g_br1
                  have Vr5 : Arv Z hr5 br1 kr1 .char (13 : Int32) [(.int (nar .char (105 : Int32))), (.int (nar .char (110 : Int32))), (.int (nar .char (115 : Int32))), (.int (nar .char (116 : Int32))), (.int (0 : Int32)), (.int (0 : Int32)), (.int (0 : Int32)), (.int (0 : Int32)), (.int (0 : Int32)), (.int (0 : Int32)), (.int (0 : Int32)), (.int (0 : Int32)), (.int (0 : Int32))] (.int (0 : Int32)) := Arv.set Ar5 qr5 Sr5 Mr5 Hr5 Ur5 (fits_nar_char _) Wr5 3 rfl (Nat.le_of_ble_eq_true rfl)
                  have Zr5 : n0 ≤ hr5.size := Nat.le_trans Zr4 (Keep.of_wr Wr5).1
                  obtain ⟨Lpr5, Xr5, Nr5⟩ := own_pack Xr5 Nr5
                  have Or5 := Or4.wr Wr5 g_br1
                  have Gr5 := Gr4.wr Wr5 (Safe.arr hZ.alike Ar5 (by decide))
                  obtain ⟨cr6, Ar6, qr6, Sr6, Mr6, Hr6, Ur6⟩ := id Vr5
                  obtain ⟨Tr6, hr6, Xr6, er6, Wr6, str6⟩ := stC Xr5 hx hZ er5 Ar6 (j := (4 : Int32)) (inb_of Sr6 ⟨(by decide : ¬ ((4 : Int32) < (0 : Int32))), (by decide : (4 : Int32) < (13 : Int32))⟩) (g := (mkF m 380 #[.val (.int p0), .val (.int p1), .val (.int p2), .val (.int p3), .val (.int ((p2 &&& (255 : Int32)).toUInt32.toUInt16.toUInt32.toInt32)), .val (.int ((p3 &&& (255 : Int32)).toUInt32.toUInt16.toUInt32.toInt32)), .val (.int (f_first (p1 &&& (1 : Int32)))), .val (.int ((p0 &&& (2147483647 : Int32)) % (10 : Int32))), .unset, .unset] [(.int (97 : Int32)), (.int (4 : Int32)), (.ref br1), (.ref br1)])) rfl rfl (hb hby at_380)
                  have Nr6 := Fr.snoc Xr6 Nr5 g_br1
                  have Vr6 : Arv Z hr6 br1 kr1 .char (13 : Int32) [(.int (nar .char (105 : Int32))), (.int (nar .char (110 : Int32))), (.int (nar .char (115 : Int32))), (.int (nar .char (116 : Int32))), (.int (nar .char (97 : Int32))), (.int (0 : Int32)), (.int (0 : Int32)), (.int (0 : Int32)), (.int (0 : Int32)), (.int (0 : Int32)), (.int (0 : Int32)), (.int (0 : Int32)), (.int (0 : Int32))] (.int (0 : Int32)) := Arv.set Ar6 qr6 Sr6 Mr6 Hr6 Ur6 (fits_nar_char _) Wr6 4 rfl (Nat.le_of_ble_eq_true rfl)
                  have Zr6 : n0 ≤ hr6.size := Nat.le_trans Zr5 (Keep.of_wr Wr6).1
                  obtain ⟨Lpr6, Xr6, Nr6⟩ := own_pack Xr6 Nr6
                  have Or6 := Or5.wr Wr6 g_br1
                  have Gr6 := Gr5.wr Wr6 (Safe.arr hZ.alike Ar6 (by decide))
                  obtain ⟨cr7, Ar7, qr7, Sr7, Mr7, Hr7, Ur7⟩ := id Vr6
                  obtain ⟨Tr7, hr7, Xr7, er7, Wr7, str7⟩ := stC Xr6 hx hZ er6 Ar7 (j := (5 : Int32)) (inb_of Sr7 ⟨(by decide : ¬ ((5 : Int32) < (0 : Int32))), (by decide : (5 : Int32) < (13 : Int32))⟩) (g := (mkF m 385 #[.val (.int p0), .val (.int p1), .val (.int p2), .val (.int p3), .val (.int ((p2 &&& (255 : Int32)).toUInt32.toUInt16.toUInt32.toInt32)), .val (.int ((p3 &&& (255 : Int32)).toUInt32.toUInt16.toUInt32.toInt32)), .val (.int (f_first (p1 &&& (1 : Int32)))), .val (.int ((p0 &&& (2147483647 : Int32)) % (10 : Int32))), .unset, .unset] [(.int (108 : Int32)), (.int (5 : Int32)), (.ref br1), (.ref br1)])) rfl rfl (hb hby at_385)
                  have Nr7 := Fr.snoc Xr7 Nr6 g_br1
                  have Vr7 : Arv Z hr7 br1 kr1 .char (13 : Int32) [(.int (nar .char (105 : Int32))), (.int (nar .char (110 : Int32))), (.int (nar .char (115 : Int32))), (.int (nar .char (116 : Int32))), (.int (nar .char (97 : Int32))), (.int (nar .char (108 : Int32))), (.int (0 : Int32)), (.int (0 : Int32)), (.int (0 : Int32)), (.int (0 : Int32)), (.int (0 : Int32)), (.int (0 : Int32)), (.int (0 : Int32))] (.int (0 : Int32)) := Arv.set Ar7 qr7 Sr7 Mr7 Hr7 Ur7 (fits_nar_char _) Wr7 5 rfl (Nat.le_of_ble_eq_true rfl)
                  have Zr7 : n0 ≤ hr7.size := Nat.le_trans Zr6 (Keep.of_wr Wr7).1
                  obtain ⟨Lpr7, Xr7, Nr7⟩ := own_pack Xr7 Nr7
                  have Or7 := Or6.wr Wr7 g_br1
                  have Gr7 := Gr6.wr Wr7 (Safe.arr hZ.alike Ar7 (by decide))
                  obtain ⟨cr8, Ar8, qr8, Sr8, Mr8, Hr8, Ur8⟩ := id Vr7
                  obtain ⟨Tr8, hr8, Xr8, er8, Wr8, str8⟩ := stC Xr7 hx hZ er7 Ar8 (j := (6 : Int32)) (inb_of Sr8 ⟨(by decide : ¬ ((6 : Int32) < (0 : Int32))), (by decide : (6 : Int32) < (13 : Int32))⟩) (g := (mkF m 391 #[.val (.int p0), .val (.int p1), .val (.int p2), .val (.int p3), .val (.int ((p2 &&& (255 : Int32)).toUInt32.toUInt16.toUInt32.toInt32)), .val (.int ((p3 &&& (255 : Int32)).toUInt32.toUInt16.toUInt32.toInt32)), .val (.int (f_first (p1 &&& (1 : Int32)))), .val (.int ((p0 &&& (2147483647 : Int32)) % (10 : Int32))), .unset, .unset] [(.int (108 : Int32)), (.int (6 : Int32)), (.ref br1), (.ref br1)])) rfl rfl (hb hby at_391)
                  have Nr8 := Fr.snoc Xr8 Nr7 g_br1
                  have Vr8 : Arv Z hr8 br1 kr1 .char (13 : Int32) [(.int (nar .char (105 : Int32))), (.int (nar .char (110 : Int32))), (.int (nar .char (115 : Int32))), (.int (nar .char (116 : Int32))), (.int (nar .char (97 : Int32))), (.int (nar .char (108 : Int32))), (.int (nar .char (108 : Int32))), (.int (0 : Int32)), (.int (0 : Int32)), (.int (0 : Int32)), (.int (0 : Int32)), (.int (0 : Int32)), (.int (0 : Int32))] (.int (0 : Int32)) := Arv.set Ar8 qr8 Sr8 Mr8 Hr8 Ur8 (fits_nar_char _) Wr8 6 rfl (Nat.le_of_ble_eq_true rfl)
                  have Zr8 : n0 ≤ hr8.size := Nat.le_trans Zr7 (Keep.of_wr Wr8).1
                  obtain ⟨Lpr8, Xr8, Nr8⟩ := own_pack Xr8 Nr8
                  have Or8 := Or7.wr Wr8 g_br1
                  have Gr8 := Gr7.wr Wr8 (Safe.arr hZ.alike Ar8 (by decide))
                  obtain ⟨cr9, Ar9, qr9, Sr9, Mr9, Hr9, Ur9⟩ := id Vr8
                  obtain ⟨Tr9, hr9, Xr9, er9, Wr9, str9⟩ := stC Xr8 hx hZ er8 Ar9 (j := (7 : Int32)) (inb_of Sr9 ⟨(by decide : ¬ ((7 : Int32) < (0 : Int32))), (by decide : (7 : Int32) < (13 : Int32))⟩) (g := (mkF m 397 #[.val (.int p0), .val (.int p1), .val (.int p2), .val (.int p3), .val (.int ((p2 &&& (255 : Int32)).toUInt32.toUInt16.toUInt32.toInt32)), .val (.int ((p3 &&& (255 : Int32)).toUInt32.toUInt16.toUInt32.toInt32)), .val (.int (f_first (p1 &&& (1 : Int32)))), .val (.int ((p0 &&& (2147483647 : Int32)) % (10 : Int32))), .unset, .unset] [(.int (109 : Int32)), (.int (7 : Int32)), (.ref br1), (.ref br1)])) rfl rfl (hb hby at_397)
                  have Nr9 := Fr.snoc Xr9 Nr8 g_br1
                  have Vr9 : Arv Z hr9 br1 kr1 .char (13 : Int32) [(.int (nar .char (105 : Int32))), (.int (nar .char (110 : Int32))), (.int (nar .char (115 : Int32))), (.int (nar .char (116 : Int32))), (.int (nar .char (97 : Int32))), (.int (nar .char (108 : Int32))), (.int (nar .char (108 : Int32))), (.int (nar .char (109 : Int32))), (.int (0 : Int32)), (.int (0 : Int32)), (.int (0 : Int32)), (.int (0 : Int32)), (.int (0 : Int32))] (.int (0 : Int32)) := Arv.set Ar9 qr9 Sr9 Mr9 Hr9 Ur9 (fits_nar_char _) Wr9 7 rfl (Nat.le_of_ble_eq_true rfl)
                  have Zr9 : n0 ≤ hr9.size := Nat.le_trans Zr8 (Keep.of_wr Wr9).1
                  obtain ⟨Lpr9, Xr9, Nr9⟩ := own_pack Xr9 Nr9
                  have Or9 := Or8.wr Wr9 g_br1
                  have Gr9 := Gr8.wr Wr9 (Safe.arr hZ.alike Ar9 (by decide))
                  obtain ⟨cr10, Ar10, qr10, Sr10, Mr10, Hr10, Ur10⟩ := id Vr9
                  obtain ⟨Tr10, hr10, Xr10, er10, Wr10, str10⟩ := stC Xr9 hx hZ er9 Ar10 (j := (8 : Int32)) (inb_of Sr10 ⟨(by decide : ¬ ((8 : Int32) < (0 : Int32))), (by decide : (8 : Int32) < (13 : Int32))⟩) (g := (mkF m 403 #[.val (.int p0), .val (.int p1), .val (.int p2), .val (.int p3), .val (.int ((p2 &&& (255 : Int32)).toUInt32.toUInt16.toUInt32.toInt32)), .val (.int ((p3 &&& (255 : Int32)).toUInt32.toUInt16.toUInt32.toInt32)), .val (.int (f_first (p1 &&& (1 : Int32)))), .val (.int ((p0 &&& (2147483647 : Int32)) % (10 : Int32))), .unset, .unset] [(.int (101 : Int32)), (.int (8 : Int32)), (.ref br1), (.ref br1)])) rfl rfl (hb hby at_403)
                  have Nr10 := Fr.snoc Xr10 Nr9 g_br1
                  have Vr10 : Arv Z hr10 br1 kr1 .char (13 : Int32) [(.int (nar .char (105 : Int32))), (.int (nar .char (110 : Int32))), (.int (nar .char (115 : Int32))), (.int (nar .char (116 : Int32))), (.int (nar .char (97 : Int32))), (.int (nar .char (108 : Int32))), (.int (nar .char (108 : Int32))), (.int (nar .char (109 : Int32))), (.int (nar .char (101 : Int32))), (.int (0 : Int32)), (.int (0 : Int32)), (.int (0 : Int32)), (.int (0 : Int32))] (.int (0 : Int32)) := Arv.set Ar10 qr10 Sr10 Mr10 Hr10 Ur10 (fits_nar_char _) Wr10 8 rfl (Nat.le_of_ble_eq_true rfl)
                  have Zr10 : n0 ≤ hr10.size := Nat.le_trans Zr9 (Keep.of_wr Wr10).1
                  obtain ⟨Lpr10, Xr10, Nr10⟩ := own_pack Xr10 Nr10
                  have Or10 := Or9.wr Wr10 g_br1
                  have Gr10 := Gr9.wr Wr10 (Safe.arr hZ.alike Ar10 (by decide))
                  obtain ⟨cr11, Ar11, qr11, Sr11, Mr11, Hr11, Ur11⟩ := id Vr10
                  obtain ⟨Tr11, hr11, Xr11, er11, Wr11, str11⟩ := stC Xr10 hx hZ er10 Ar11 (j := (9 : Int32)) (inb_of Sr11 ⟨(by decide : ¬ ((9 : Int32) < (0 : Int32))), (by decide : (9 : Int32) < (13 : Int32))⟩) (g := (mkF m 409 #[.val (.int p0), .val (.int p1), .val (.int p2), .val (.int p3), .val (.int ((p2 &&& (255 : Int32)).toUInt32.toUInt16.toUInt32.toInt32)), .val (.int ((p3 &&& (255 : Int32)).toUInt32.toUInt16.toUInt32.toInt32)), .val (.int (f_first (p1 &&& (1 : Int32)))), .val (.int ((p0 &&& (2147483647 : Int32)) % (10 : Int32))), .unset, .unset] [(.int (110 : Int32)), (.int (9 : Int32)), (.ref br1), (.ref br1)])) rfl rfl (hb hby at_409)
                  have Nr11 := Fr.snoc Xr11 Nr10 g_br1
                  have Vr11 : Arv Z hr11 br1 kr1 .char (13 : Int32) [(.int (nar .char (105 : Int32))), (.int (nar .char (110 : Int32))), (.int (nar .char (115 : Int32))), (.int (nar .char (116 : Int32))), (.int (nar .char (97 : Int32))), (.int (nar .char (108 : Int32))), (.int (nar .char (108 : Int32))), (.int (nar .char (109 : Int32))), (.int (nar .char (101 : Int32))), (.int (nar .char (110 : Int32))), (.int (0 : Int32)), (.int (0 : Int32)), (.int (0 : Int32))] (.int (0 : Int32)) := Arv.set Ar11 qr11 Sr11 Mr11 Hr11 Ur11 (fits_nar_char _) Wr11 9 rfl (Nat.le_of_ble_eq_true rfl)
                  have Zr11 : n0 ≤ hr11.size := Nat.le_trans Zr10 (Keep.of_wr Wr11).1
                  obtain ⟨Lpr11, Xr11, Nr11⟩ := own_pack Xr11 Nr11
                  have Or11 := Or10.wr Wr11 g_br1
                  have Gr11 := Gr10.wr Wr11 (Safe.arr hZ.alike Ar11 (by decide))
                  obtain ⟨cr12, Ar12, qr12, Sr12, Mr12, Hr12, Ur12⟩ := id Vr11
                  obtain ⟨Tr12, hr12, Xr12, er12, Wr12, str12⟩ := stC Xr11 hx hZ er11 Ar12 (j := (10 : Int32)) (inb_of Sr12 ⟨(by decide : ¬ ((10 : Int32) < (0 : Int32))), (by decide : (10 : Int32) < (13 : Int32))⟩) (g := (mkF m 415 #[.val (.int p0), .val (.int p1), .val (.int p2), .val (.int p3), .val (.int ((p2 &&& (255 : Int32)).toUInt32.toUInt16.toUInt32.toInt32)), .val (.int ((p3 &&& (255 : Int32)).toUInt32.toUInt16.toUInt32.toInt32)), .val (.int (f_first (p1 &&& (1 : Int32)))), .val (.int ((p0 &&& (2147483647 : Int32)) % (10 : Int32))), .unset, .unset] [(.int (116 : Int32)), (.int (10 : Int32)), (.ref br1), (.ref br1)])) rfl rfl (hb hby at_415)
                  have Nr12 := Fr.snoc Xr12 Nr11 g_br1
                  have Vr12 : Arv Z hr12 br1 kr1 .char (13 : Int32) [(.int (nar .char (105 : Int32))), (.int (nar .char (110 : Int32))), (.int (nar .char (115 : Int32))), (.int (nar .char (116 : Int32))), (.int (nar .char (97 : Int32))), (.int (nar .char (108 : Int32))), (.int (nar .char (108 : Int32))), (.int (nar .char (109 : Int32))), (.int (nar .char (101 : Int32))), (.int (nar .char (110 : Int32))), (.int (nar .char (116 : Int32))), (.int (0 : Int32)), (.int (0 : Int32))] (.int (0 : Int32)) := Arv.set Ar12 qr12 Sr12 Mr12 Hr12 Ur12 (fits_nar_char _) Wr12 10 rfl (Nat.le_of_ble_eq_true rfl)
                  have Zr12 : n0 ≤ hr12.size := Nat.le_trans Zr11 (Keep.of_wr Wr12).1
                  obtain ⟨Lpr12, Xr12, Nr12⟩ := own_pack Xr12 Nr12
                  have Or12 := Or11.wr Wr12 g_br1
                  have Gr12 := Gr11.wr Wr12 (Safe.arr hZ.alike Ar12 (by decide))
                  obtain ⟨cr13, Ar13, qr13, Sr13, Mr13, Hr13, Ur13⟩ := id Vr12
                  obtain ⟨Tr13, hr13, Xr13, er13, Wr13, str13⟩ := stC Xr12 hx hZ er12 Ar13 (j := (11 : Int32)) (inb_of Sr13 ⟨(by decide : ¬ ((11 : Int32) < (0 : Int32))), (by decide : (11 : Int32) < (13 : Int32))⟩) (g := (mkF m 421 #[.val (.int p0), .val (.int p1), .val (.int p2), .val (.int p3), .val (.int ((p2 &&& (255 : Int32)).toUInt32.toUInt16.toUInt32.toInt32)), .val (.int ((p3 &&& (255 : Int32)).toUInt32.toUInt16.toUInt32.toInt32)), .val (.int (f_first (p1 &&& (1 : Int32)))), .val (.int ((p0 &&& (2147483647 : Int32)) % (10 : Int32))), .unset, .unset] [(.int (115 : Int32)), (.int (11 : Int32)), (.ref br1), (.ref br1)])) rfl rfl (hb hby at_421)
                  have Nr13 := Fr.snoc Xr13 Nr12 g_br1
                  have Vr13 : Arv Z hr13 br1 kr1 .char (13 : Int32) [(.int (nar .char (105 : Int32))), (.int (nar .char (110 : Int32))), (.int (nar .char (115 : Int32))), (.int (nar .char (116 : Int32))), (.int (nar .char (97 : Int32))), (.int (nar .char (108 : Int32))), (.int (nar .char (108 : Int32))), (.int (nar .char (109 : Int32))), (.int (nar .char (101 : Int32))), (.int (nar .char (110 : Int32))), (.int (nar .char (116 : Int32))), (.int (nar .char (115 : Int32))), (.int (0 : Int32))] (.int (0 : Int32)) := Arv.set Ar13 qr13 Sr13 Mr13 Hr13 Ur13 (fits_nar_char _) Wr13 11 rfl (Nat.le_of_ble_eq_true rfl)
                  have Zr13 : n0 ≤ hr13.size := Nat.le_trans Zr12 (Keep.of_wr Wr13).1
                  obtain ⟨Lpr13, Xr13, Nr13⟩ := own_pack Xr13 Nr13
                  have Or13 := Or12.wr Wr13 g_br1
                  have Gr13 := Gr12.wr Wr13 (Safe.arr hZ.alike Ar13 (by decide))
                  obtain ⟨cr14, Ar14, qr14, Sr14, Mr14, Hr14, Ur14⟩ := id Vr13
                  obtain ⟨Tr14, hr14, Xr14, er14, Wr14, str14⟩ := stC Xr13 hx hZ er13 Ar14 (j := (12 : Int32)) (inb_of Sr14 ⟨(by decide : ¬ ((12 : Int32) < (0 : Int32))), (by decide : (12 : Int32) < (13 : Int32))⟩) (g := (mkF m 427 #[.val (.int p0), .val (.int p1), .val (.int p2), .val (.int p3), .val (.int ((p2 &&& (255 : Int32)).toUInt32.toUInt16.toUInt32.toInt32)), .val (.int ((p3 &&& (255 : Int32)).toUInt32.toUInt16.toUInt32.toInt32)), .val (.int (f_first (p1 &&& (1 : Int32)))), .val (.int ((p0 &&& (2147483647 : Int32)) % (10 : Int32))), .unset, .unset] [(.int ((p2 &&& (255 : Int32)).toUInt32.toUInt16.toUInt32.toInt32)), (.int (12 : Int32)), (.ref br1), (.ref br1)])) rfl rfl (hb hby at_427)
                  have Nr14 := Fr.snoc Xr14 Nr13 g_br1
                  have Vr14 : Arv Z hr14 br1 kr1 .char (13 : Int32) [(.int (nar .char (105 : Int32))), (.int (nar .char (110 : Int32))), (.int (nar .char (115 : Int32))), (.int (nar .char (116 : Int32))), (.int (nar .char (97 : Int32))), (.int (nar .char (108 : Int32))), (.int (nar .char (108 : Int32))), (.int (nar .char (109 : Int32))), (.int (nar .char (101 : Int32))), (.int (nar .char (110 : Int32))), (.int (nar .char (116 : Int32))), (.int (nar .char (115 : Int32))), (.int (nar .char ((p2 &&& (255 : Int32)).toUInt32.toUInt16.toUInt32.toInt32)))] (.int (0 : Int32)) := Arv.set Ar14 qr14 Sr14 Mr14 Hr14 Ur14 (fits_nar_char _) Wr14 12 rfl (Nat.le_of_ble_eq_true rfl)
                  have Zr14 : n0 ≤ hr14.size := Nat.le_trans Zr13 (Keep.of_wr Wr14).1
                  obtain ⟨Lpr14, Xr14, Nr14⟩ := own_pack Xr14 Nr14
                  have Or14 := Or13.wr Wr14 g_br1
                  have Gr14 := Gr13.wr Wr14 (Safe.arr hZ.alike Ar14 (by decide))
                  have hp : ∀ c ∈ ([(nar .char (105 : Int32)), (nar .char (110 : Int32)), (nar .char (115 : Int32)), (nar .char (116 : Int32)), (nar .char (97 : Int32)), (nar .char (108 : Int32)), (nar .char (108 : Int32)), (nar .char (109 : Int32)), (nar .char (101 : Int32)), (nar .char (110 : Int32)), (nar .char (116 : Int32)), (nar .char (115 : Int32)), (nar .char ((p2 &&& (255 : Int32)).toUInt32.toUInt16.toUInt32.toInt32))] : List Int32), ¬ c < 0 ∧ ¬ (255 : Int32) < c := by
                    intro c hc
                    simp only [List.mem_cons, List.not_mem_nil, or_false] at hc
                    rcases hc with rfl | rfl | rfl | rfl | rfl | rfl | rfl | rfl | rfl | rfl | rfl | rfl | rfl
                    · exact by decide
                    · exact by decide
                    · exact by decide
                    · exact by decide
                    · exact by decide
                    · exact by decide
                    · exact by decide
                    · exact by decide
                    · exact by decide
                    · exact by decide
                    · exact by decide
                    · exact by decide
                    · exact and255_chars p2
                  obtain ⟨cs, hl, hp, Vcs⟩ : ∃ cs : List Int32, cs.length = 13 ∧ (∀ c ∈ cs, ¬ c < 0 ∧ ¬ (255 : Int32) < c) ∧ Arv Z hr14 br1 kr1 .char (13 : Int32) (cs.map Value.int) (.int (0 : Int32)) := ⟨([(nar .char (105 : Int32)), (nar .char (110 : Int32)), (nar .char (115 : Int32)), (nar .char (116 : Int32)), (nar .char (97 : Int32)), (nar .char (108 : Int32)), (nar .char (108 : Int32)), (nar .char (109 : Int32)), (nar .char (101 : Int32)), (nar .char (110 : Int32)), (nar .char (116 : Int32)), (nar .char (115 : Int32)), (nar .char ((p2 &&& (255 : Int32)).toUInt32.toUInt16.toUInt32.toInt32))] : List Int32), rfl, hp, Vr14⟩
                  obtain ⟨Tr15, hr15, Xr15, er15, Er15, Ar15, Dr15, -, str15⟩ := newO Xr14 hx hZ hown (hw _ (List.mem_of_getElem? (i := 38) rfl)) (hw _ (List.mem_of_getElem? (i := 3) rfl)) (hw _ (List.mem_of_getElem? (i := 2) rfl)) er14 (g := (mkF m 430 #[.val (.int p0), .val (.int p1), .val (.int p2), .val (.int p3), .val (.int ((p2 &&& (255 : Int32)).toUInt32.toUInt16.toUInt32.toInt32)), .val (.int ((p3 &&& (255 : Int32)).toUInt32.toUInt16.toUInt32.toInt32)), .val (.int (f_first (p1 &&& (1 : Int32)))), .val (.int ((p0 &&& (2147483647 : Int32)) % (10 : Int32))), .unset, .val (.ref br1)] [])) rfl (hb hby at_430) (by decide) (by decide)
                  obtain ⟨br15, gr15⟩ : ∃ z, z = hr14.size := ⟨_, rfl⟩
                  rw [← gr15] at Ar15 Dr15 str15
                  have Fvr15 : Fld Z hr15 br15 "java/lang/String" "value" "[B" .null := Dr15 (Or.inr (hw _ (List.mem_of_getElem? (i := 5) rfl))) (ty := (.array .byte)) (by decide)
                  have Fcr15 : Fld Z hr15 br15 "java/lang/String" "coder" "B" (.int (0 : Int32)) := Dr15 (Or.inr (hw _ (List.mem_of_getElem? (i := 6) rfl))) (ty := .byte) (by decide)
                  have g_br15 : n0 ≤ br15 := Nat.le_trans Zr14 (Nat.le_of_eq gr15.symm)
                  have Zr15 : n0 ≤ hr15.size := Nat.le_trans Zr14 Er15.1
                  have Or15 := Or14.ext Er15
                  have Sfr15 := Safe.ext Er15 Gr14 (Safe.new (Nat.le_of_eq gr15.symm))
                  have Gr15 := Gr14.ext Er15
                  obtain ⟨_, _, ⟨Tr16, Lr16, kr16, nr16⟩, -, Xr16, ⟨Lcr16, hQr16, lr16, yr16, zr16⟩, str16⟩ := Xr15.specialBack hx (y := (⟨"java/lang/String", "<init>", "([C)V"⟩ : MethodName)) rfl hown (mvT hZ (hw _ (List.mem_of_getElem? (i := 39) rfl))) (mvT hZ (hw _ (List.mem_of_getElem? (i := 40) rfl))) (mvT hZ (hw _ (List.mem_of_getElem? (i := 41) rfl))) (by decide) (StrChars.Road.backV (W := 1) hZ hws (kI := 4) (hw _ (List.mem_of_getElem? (i := 3) rfl)) (cs := cs) (bs := (cs.map (fun c => c.toInt8.toInt32))) (n := 13) g_br15 Zr15 Ar15 Fvr15 Fcr15 (Vcs.ext Er15) (S_C.ext (own_oldE hZh Or15)) hC hl rfl (by decide) (by decide) hp rfl (by decide) (by decide)) (g := (mkF m 436 #[.val (.int p0), .val (.int p1), .val (.int p2), .val (.int p3), .val (.int ((p2 &&& (255 : Int32)).toUInt32.toUInt16.toUInt32.toInt32)), .val (.int ((p3 &&& (255 : Int32)).toUInt32.toUInt16.toUInt32.toInt32)), .val (.int (f_first (p1 &&& (1 : Int32)))), .val (.int ((p0 &&& (2147483647 : Int32)) % (10 : Int32))), .unset, .val (.ref br1)] [(.ref br1), (.ref br15), (.ref br15)])) rfl (by rw [hml]; rfl) (Steps.refl _) (a := br15) (argsL := [(.ref br1)]) (rest := [(.ref br15)]) (lenOf pd_law_2 rfl) rfl (by show 2 * 0 + _ ≤ _; exact Nat.le_of_eq rfl) (hb hby at_436) (fun _ _ => ⟨rfl, er15, (by decide : 2 + 1 ≤ _), (by decide : 17 + 13 ≤ _)⟩)
                  dsimp only [Pt.U, Pt.locs, Pt.cells, Pt.slots] at Xr16 lr16 yr16 zr16 str16 hQr16
                  subst lr16 yr16 zr16
                  obtain ⟨rfl, Nr16q, Kr16, EN, CN, tN, kN, u1, u2, u3, VN, KN⟩ := hQr16
                  have Nr16 := Fr.app Nr14 Nr16q
                  obtain ⟨Lpr16, Xr16, Nr16⟩ := own_pack Xr16 Nr16
                  have Or16 := Or15.keep Kr16 (allS g_br15 all0)
                  have Zr16 : n0 ≤ Tr16.heap.size := Nat.le_trans Zr15 Kr16.1
                  have Gr16 := Gr15.keep Kr16 (allS Sfr15 all0)
                  have hlb : (cs.map (fun c => c.toInt8.toInt32)).length = 13 := by rw [List.length_map]; exact hl
                  have KN' : Arv Z Tr16.heap tN kN .byte (Int32.ofNat (cs.map (fun c => c.toInt8.toInt32)).length) ((cs.map (fun c => c.toInt8.toInt32)).map Value.int) (.int (0 : Int32)) := by rw [hlb]; exact KN
                  have OE := own_oldE hZh Or16
                  have S_C' := S_C.ext OE
                  have S_L' := S_L.ext OE
                  have S_I' := S_I.ext OE
                  have W_L' := W_L.ext OE
                  have W_I' := W_I.ext OE
                  obtain ⟨t, hst, hrun, hended, L, NL, hEnd⟩ := own_end (s := s) (vm0 := s.vm) (.val (.int p0)) (.val (.int p1)) (.val (.int p2)) (.val (.int p3)) (.val (.int ((p2 &&& (255 : Int32)).toUInt32.toUInt16.toUInt32.toInt32))) (.val (.int ((p3 &&& (255 : Int32)).toUInt32.toUInt16.toUInt32.toInt32))) (.val (.int (f_first (p1 &&& (1 : Int32))))) (.val (.int ((p0 &&& (2147483647 : Int32)) % (10 : Int32)))) (.val (.ref br1)) (One.val rfl) br15 tN kN (cs.map (fun c => c.toInt8.toInt32)) wL wI iC (Xr16.more (by decide) (by decide)) hx Bd.returns Bd.notSynchronized hZ hw hby hml hown rfl hS0 (Nat.le_trans (Nat.le_of_eq hn0.symm) Zr16) Nr16 Zr16 wStr hEW Gr16 S_L' S_I' W_L' W_I' S_C' hC (by rw [hlb]; decide) EN CN VN KN'
                  refine ⟨t, _, pre0 _ ?_, hrun, hended, _, L, rfl, ⟨rfl, NL⟩, hEnd⟩
                  show Steps p.tables e below (s₁.setTop (mkF m 0 #[.val (.int p0), .val (.int p1), .val (.int p2), .val (.int p3), .unset, .unset, .unset, .unset, .unset, .unset] [])) _
                  refine XS.iloadN X0.here hx rfl (hb hby at_0) rfl ?_
                  show Steps p.tables e below (s₁.setTop (mkF m 1 #[.val (.int p0), .val (.int p1), .val (.int p2), .val (.int p3), .unset, .unset, .unset, .unset, .unset, .unset] [(.int p2)])) _
                  refine XS.sipush X0.here hx rfl (hb hby at_1) ?_
                  show Steps p.tables e below (s₁.setTop (mkF m 4 #[.val (.int p0), .val (.int p1), .val (.int p2), .val (.int p3), .unset, .unset, .unset, .unset, .unset, .unset] [(.int (255 : Int32)), (.int p2)])) _
                  refine XS.iand X0.here hx rfl (hb hby at_4) rfl ?_
                  show Steps p.tables e below (s₁.setTop (mkF m 5 #[.val (.int p0), .val (.int p1), .val (.int p2), .val (.int p3), .unset, .unset, .unset, .unset, .unset, .unset] [(.int (p2 &&& (255 : Int32)))])) _
                  refine XS.i2c X0.here hx rfl (hb hby at_5) rfl ?_
                  show Steps p.tables e below (s₁.setTop (mkF m 6 #[.val (.int p0), .val (.int p1), .val (.int p2), .val (.int p3), .unset, .unset, .unset, .unset, .unset, .unset] [(.int ((p2 &&& (255 : Int32)).toUInt32.toUInt16.toUInt32.toInt32))])) _
                  refine XS.istore X0.here hx rfl (hb hby at_6) rfl (l' := #[.val (.int p0), .val (.int p1), .val (.int p2), .val (.int p3), .val (.int ((p2 &&& (255 : Int32)).toUInt32.toUInt16.toUInt32.toInt32)), .unset, .unset, .unset, .unset, .unset]) rfl ?_
                  show Steps p.tables e below (s₁.setTop (mkF m 8 #[.val (.int p0), .val (.int p1), .val (.int p2), .val (.int p3), .val (.int ((p2 &&& (255 : Int32)).toUInt32.toUInt16.toUInt32.toInt32)), .unset, .unset, .unset, .unset, .unset] [])) _
                  refine XS.iloadN X0.here hx rfl (hb hby at_8) rfl ?_
                  show Steps p.tables e below (s₁.setTop (mkF m 9 #[.val (.int p0), .val (.int p1), .val (.int p2), .val (.int p3), .val (.int ((p2 &&& (255 : Int32)).toUInt32.toUInt16.toUInt32.toInt32)), .unset, .unset, .unset, .unset, .unset] [(.int p3)])) _
                  refine XS.sipush X0.here hx rfl (hb hby at_9) ?_
                  show Steps p.tables e below (s₁.setTop (mkF m 12 #[.val (.int p0), .val (.int p1), .val (.int p2), .val (.int p3), .val (.int ((p2 &&& (255 : Int32)).toUInt32.toUInt16.toUInt32.toInt32)), .unset, .unset, .unset, .unset, .unset] [(.int (255 : Int32)), (.int p3)])) _
                  refine XS.iand X0.here hx rfl (hb hby at_12) rfl ?_
                  show Steps p.tables e below (s₁.setTop (mkF m 13 #[.val (.int p0), .val (.int p1), .val (.int p2), .val (.int p3), .val (.int ((p2 &&& (255 : Int32)).toUInt32.toUInt16.toUInt32.toInt32)), .unset, .unset, .unset, .unset, .unset] [(.int (p3 &&& (255 : Int32)))])) _
                  refine XS.i2c X0.here hx rfl (hb hby at_13) rfl ?_
                  show Steps p.tables e below (s₁.setTop (mkF m 14 #[.val (.int p0), .val (.int p1), .val (.int p2), .val (.int p3), .val (.int ((p2 &&& (255 : Int32)).toUInt32.toUInt16.toUInt32.toInt32)), .unset, .unset, .unset, .unset, .unset] [(.int ((p3 &&& (255 : Int32)).toUInt32.toUInt16.toUInt32.toInt32))])) _
                  refine XS.istore X0.here hx rfl (hb hby at_14) rfl (l' := #[.val (.int p0), .val (.int p1), .val (.int p2), .val (.int p3), .val (.int ((p2 &&& (255 : Int32)).toUInt32.toUInt16.toUInt32.toInt32)), .val (.int ((p3 &&& (255 : Int32)).toUInt32.toUInt16.toUInt32.toInt32)), .unset, .unset, .unset, .unset]) rfl ?_
                  show Steps p.tables e below (s₁.setTop (mkF m 16 #[.val (.int p0), .val (.int p1), .val (.int p2), .val (.int p3), .val (.int ((p2 &&& (255 : Int32)).toUInt32.toUInt16.toUInt32.toInt32)), .val (.int ((p3 &&& (255 : Int32)).toUInt32.toUInt16.toUInt32.toInt32)), .unset, .unset, .unset, .unset] [])) _
                  refine XS.iloadN X0.here hx rfl (hb hby at_16) rfl ?_
                  show Steps p.tables e below (s₁.setTop (mkF m 17 #[.val (.int p0), .val (.int p1), .val (.int p2), .val (.int p3), .val (.int ((p2 &&& (255 : Int32)).toUInt32.toUInt16.toUInt32.toInt32)), .val (.int ((p3 &&& (255 : Int32)).toUInt32.toUInt16.toUInt32.toInt32)), .unset, .unset, .unset, .unset] [(.int p1)])) _
                  refine XS.iconst X0.here hx rfl (hb hby at_17) ?_
                  show Steps p.tables e below (s₁.setTop (mkF m 18 #[.val (.int p0), .val (.int p1), .val (.int p2), .val (.int p3), .val (.int ((p2 &&& (255 : Int32)).toUInt32.toUInt16.toUInt32.toInt32)), .val (.int ((p3 &&& (255 : Int32)).toUInt32.toUInt16.toUInt32.toInt32)), .unset, .unset, .unset, .unset] [(.int (1 : Int32)), (.int p1)])) _
                  refine XS.iand X0.here hx rfl (hb hby at_18) rfl ?_
                  have key : Steps p.tables e below (s₁.setTop (mkF m 27 #[.val (.int p0), .val (.int p1), .val (.int p2), .val (.int p3), .val (.int ((p2 &&& (255 : Int32)).toUInt32.toUInt16.toUInt32.toInt32)), .val (.int ((p3 &&& (255 : Int32)).toUInt32.toUInt16.toUInt32.toInt32)), .unset, .unset, .unset, .unset] [(.int (f_first (p1 &&& (1 : Int32))))])) t := by
                    show Steps p.tables e below (s₁.setTop (mkF m 27 #[.val (.int p0), .val (.int p1), .val (.int p2), .val (.int p3), .val (.int ((p2 &&& (255 : Int32)).toUInt32.toUInt16.toUInt32.toInt32)), .val (.int ((p3 &&& (255 : Int32)).toUInt32.toUInt16.toUInt32.toInt32)), .unset, .unset, .unset, .unset] [(.int (f_first (p1 &&& (1 : Int32))))])) _
                    refine XS.istore X0.here hx rfl (hb hby at_27) rfl (l' := #[.val (.int p0), .val (.int p1), .val (.int p2), .val (.int p3), .val (.int ((p2 &&& (255 : Int32)).toUInt32.toUInt16.toUInt32.toInt32)), .val (.int ((p3 &&& (255 : Int32)).toUInt32.toUInt16.toUInt32.toInt32)), .val (.int (f_first (p1 &&& (1 : Int32)))), .unset, .unset, .unset]) rfl ?_
                    show Steps p.tables e below (s₁.setTop (mkF m 29 #[.val (.int p0), .val (.int p1), .val (.int p2), .val (.int p3), .val (.int ((p2 &&& (255 : Int32)).toUInt32.toUInt16.toUInt32.toInt32)), .val (.int ((p3 &&& (255 : Int32)).toUInt32.toUInt16.toUInt32.toInt32)), .val (.int (f_first (p1 &&& (1 : Int32)))), .unset, .unset, .unset] [])) _
                    refine XS.iloadN X0.here hx rfl (hb hby at_29) rfl ?_
                    show Steps p.tables e below (s₁.setTop (mkF m 30 #[.val (.int p0), .val (.int p1), .val (.int p2), .val (.int p3), .val (.int ((p2 &&& (255 : Int32)).toUInt32.toUInt16.toUInt32.toInt32)), .val (.int ((p3 &&& (255 : Int32)).toUInt32.toUInt16.toUInt32.toInt32)), .val (.int (f_first (p1 &&& (1 : Int32)))), .unset, .unset, .unset] [(.int p0)])) _
                    refine X0.ldcInt hx hown (mvT hZ (hw _ (List.mem_of_getElem? (i := 0) rfl))) (g := (mkF m 30 #[.val (.int p0), .val (.int p1), .val (.int p2), .val (.int p3), .val (.int ((p2 &&& (255 : Int32)).toUInt32.toUInt16.toUInt32.toInt32)), .val (.int ((p3 &&& (255 : Int32)).toUInt32.toUInt16.toUInt32.toInt32)), .val (.int (f_first (p1 &&& (1 : Int32)))), .unset, .unset, .unset] [(.int p0)])) rfl (hb hby at_30) _ ?_
                    show Steps p.tables e below (s₁.setTop (mkF m 32 #[.val (.int p0), .val (.int p1), .val (.int p2), .val (.int p3), .val (.int ((p2 &&& (255 : Int32)).toUInt32.toUInt16.toUInt32.toInt32)), .val (.int ((p3 &&& (255 : Int32)).toUInt32.toUInt16.toUInt32.toInt32)), .val (.int (f_first (p1 &&& (1 : Int32)))), .unset, .unset, .unset] [(.int (2147483647 : Int32)), (.int p0)])) _
                    refine XS.iand X0.here hx rfl (hb hby at_32) rfl ?_
                    show Steps p.tables e below (s₁.setTop (mkF m 33 #[.val (.int p0), .val (.int p1), .val (.int p2), .val (.int p3), .val (.int ((p2 &&& (255 : Int32)).toUInt32.toUInt16.toUInt32.toInt32)), .val (.int ((p3 &&& (255 : Int32)).toUInt32.toUInt16.toUInt32.toInt32)), .val (.int (f_first (p1 &&& (1 : Int32)))), .unset, .unset, .unset] [(.int (p0 &&& (2147483647 : Int32)))])) _
                    refine XS.bipush X0.here hx rfl (hb hby at_33) ?_
                    show Steps p.tables e below (s₁.setTop (mkF m 35 #[.val (.int p0), .val (.int p1), .val (.int p2), .val (.int p3), .val (.int ((p2 &&& (255 : Int32)).toUInt32.toUInt16.toUInt32.toInt32)), .val (.int ((p3 &&& (255 : Int32)).toUInt32.toUInt16.toUInt32.toInt32)), .val (.int (f_first (p1 &&& (1 : Int32)))), .unset, .unset, .unset] [(.int (10 : Int32)), (.int (p0 &&& (2147483647 : Int32)))])) _
                    refine Jvm.RoadKit.iremM X0 hx rfl (hb hby at_35) rfl (by decide) ?_
                    show Steps p.tables e below (s₁.setTop (mkF m 36 #[.val (.int p0), .val (.int p1), .val (.int p2), .val (.int p3), .val (.int ((p2 &&& (255 : Int32)).toUInt32.toUInt16.toUInt32.toInt32)), .val (.int ((p3 &&& (255 : Int32)).toUInt32.toUInt16.toUInt32.toInt32)), .val (.int (f_first (p1 &&& (1 : Int32)))), .unset, .unset, .unset] [(.int ((p0 &&& (2147483647 : Int32)) % (10 : Int32)))])) _
                    refine XS.istore X0.here hx rfl (hb hby at_36) rfl (l' := #[.val (.int p0), .val (.int p1), .val (.int p2), .val (.int p3), .val (.int ((p2 &&& (255 : Int32)).toUInt32.toUInt16.toUInt32.toInt32)), .val (.int ((p3 &&& (255 : Int32)).toUInt32.toUInt16.toUInt32.toInt32)), .val (.int (f_first (p1 &&& (1 : Int32)))), .val (.int ((p0 &&& (2147483647 : Int32)) % (10 : Int32))), .unset, .unset]) rfl ?_
                    show Steps p.tables e below (s₁.setTop (mkF m 38 #[.val (.int p0), .val (.int p1), .val (.int p2), .val (.int p3), .val (.int ((p2 &&& (255 : Int32)).toUInt32.toUInt16.toUInt32.toInt32)), .val (.int ((p3 &&& (255 : Int32)).toUInt32.toUInt16.toUInt32.toInt32)), .val (.int (f_first (p1 &&& (1 : Int32)))), .val (.int ((p0 &&& (2147483647 : Int32)) % (10 : Int32))), .unset, .unset] [])) _
                    refine XS.iload X0.here hx rfl (hb hby at_38) rfl ?_
                    show Steps p.tables e below (s₁.setTop (mkF m 40 #[.val (.int p0), .val (.int p1), .val (.int p2), .val (.int p3), .val (.int ((p2 &&& (255 : Int32)).toUInt32.toUInt16.toUInt32.toInt32)), .val (.int ((p3 &&& (255 : Int32)).toUInt32.toUInt16.toUInt32.toInt32)), .val (.int (f_first (p1 &&& (1 : Int32)))), .val (.int ((p0 &&& (2147483647 : Int32)) % (10 : Int32))), .unset, .unset] [(.int ((p0 &&& (2147483647 : Int32)) % (10 : Int32)))])) _
                    refine XS.ifYes X0.here hx rfl (pc0 := 40) (pc' := 50) rfl (hb hby at_40) rfl ((if0 _ _).trans (feq hcase0).2) (by decide) (by decide) ?_
                    show Steps p.tables e below (s₁.setTop (mkF m 50 #[.val (.int p0), .val (.int p1), .val (.int p2), .val (.int p3), .val (.int ((p2 &&& (255 : Int32)).toUInt32.toUInt16.toUInt32.toInt32)), .val (.int ((p3 &&& (255 : Int32)).toUInt32.toUInt16.toUInt32.toInt32)), .val (.int (f_first (p1 &&& (1 : Int32)))), .val (.int ((p0 &&& (2147483647 : Int32)) % (10 : Int32))), .unset, .unset] [])) _
                    refine XS.iload X0.here hx rfl (hb hby at_50) rfl ?_
                    show Steps p.tables e below (s₁.setTop (mkF m 52 #[.val (.int p0), .val (.int p1), .val (.int p2), .val (.int p3), .val (.int ((p2 &&& (255 : Int32)).toUInt32.toUInt16.toUInt32.toInt32)), .val (.int ((p3 &&& (255 : Int32)).toUInt32.toUInt16.toUInt32.toInt32)), .val (.int (f_first (p1 &&& (1 : Int32)))), .val (.int ((p0 &&& (2147483647 : Int32)) % (10 : Int32))), .unset, .unset] [(.int ((p0 &&& (2147483647 : Int32)) % (10 : Int32)))])) _
                    refine XS.iconst X0.here hx rfl (hb hby at_52) ?_
                    show Steps p.tables e below (s₁.setTop (mkF m 53 #[.val (.int p0), .val (.int p1), .val (.int p2), .val (.int p3), .val (.int ((p2 &&& (255 : Int32)).toUInt32.toUInt16.toUInt32.toInt32)), .val (.int ((p3 &&& (255 : Int32)).toUInt32.toUInt16.toUInt32.toInt32)), .val (.int (f_first (p1 &&& (1 : Int32)))), .val (.int ((p0 &&& (2147483647 : Int32)) % (10 : Int32))), .unset, .unset] [(.int (1 : Int32)), (.int ((p0 &&& (2147483647 : Int32)) % (10 : Int32)))])) _
                    refine XS.icmpYes X0.here hx rfl (pc0 := 53) (pc' := 63) rfl (hb hby at_53) rfl (feq hcase1).2 (by decide) (by decide) ?_
                    show Steps p.tables e below (s₁.setTop (mkF m 63 #[.val (.int p0), .val (.int p1), .val (.int p2), .val (.int p3), .val (.int ((p2 &&& (255 : Int32)).toUInt32.toUInt16.toUInt32.toInt32)), .val (.int ((p3 &&& (255 : Int32)).toUInt32.toUInt16.toUInt32.toInt32)), .val (.int (f_first (p1 &&& (1 : Int32)))), .val (.int ((p0 &&& (2147483647 : Int32)) % (10 : Int32))), .unset, .unset] [])) _
                    refine XS.iload X0.here hx rfl (hb hby at_63) rfl ?_
                    show Steps p.tables e below (s₁.setTop (mkF m 65 #[.val (.int p0), .val (.int p1), .val (.int p2), .val (.int p3), .val (.int ((p2 &&& (255 : Int32)).toUInt32.toUInt16.toUInt32.toInt32)), .val (.int ((p3 &&& (255 : Int32)).toUInt32.toUInt16.toUInt32.toInt32)), .val (.int (f_first (p1 &&& (1 : Int32)))), .val (.int ((p0 &&& (2147483647 : Int32)) % (10 : Int32))), .unset, .unset] [(.int ((p0 &&& (2147483647 : Int32)) % (10 : Int32)))])) _
                    refine XS.iconst X0.here hx rfl (hb hby at_65) ?_
                    show Steps p.tables e below (s₁.setTop (mkF m 66 #[.val (.int p0), .val (.int p1), .val (.int p2), .val (.int p3), .val (.int ((p2 &&& (255 : Int32)).toUInt32.toUInt16.toUInt32.toInt32)), .val (.int ((p3 &&& (255 : Int32)).toUInt32.toUInt16.toUInt32.toInt32)), .val (.int (f_first (p1 &&& (1 : Int32)))), .val (.int ((p0 &&& (2147483647 : Int32)) % (10 : Int32))), .unset, .unset] [(.int (2 : Int32)), (.int ((p0 &&& (2147483647 : Int32)) % (10 : Int32)))])) _
                    refine XS.icmpYes X0.here hx rfl (pc0 := 66) (pc' := 76) rfl (hb hby at_66) rfl (feq hcase2).2 (by decide) (by decide) ?_
                    show Steps p.tables e below (s₁.setTop (mkF m 76 #[.val (.int p0), .val (.int p1), .val (.int p2), .val (.int p3), .val (.int ((p2 &&& (255 : Int32)).toUInt32.toUInt16.toUInt32.toInt32)), .val (.int ((p3 &&& (255 : Int32)).toUInt32.toUInt16.toUInt32.toInt32)), .val (.int (f_first (p1 &&& (1 : Int32)))), .val (.int ((p0 &&& (2147483647 : Int32)) % (10 : Int32))), .unset, .unset] [])) _
                    refine XS.iload X0.here hx rfl (hb hby at_76) rfl ?_
                    show Steps p.tables e below (s₁.setTop (mkF m 78 #[.val (.int p0), .val (.int p1), .val (.int p2), .val (.int p3), .val (.int ((p2 &&& (255 : Int32)).toUInt32.toUInt16.toUInt32.toInt32)), .val (.int ((p3 &&& (255 : Int32)).toUInt32.toUInt16.toUInt32.toInt32)), .val (.int (f_first (p1 &&& (1 : Int32)))), .val (.int ((p0 &&& (2147483647 : Int32)) % (10 : Int32))), .unset, .unset] [(.int ((p0 &&& (2147483647 : Int32)) % (10 : Int32)))])) _
                    refine XS.iconst X0.here hx rfl (hb hby at_78) ?_
                    show Steps p.tables e below (s₁.setTop (mkF m 79 #[.val (.int p0), .val (.int p1), .val (.int p2), .val (.int p3), .val (.int ((p2 &&& (255 : Int32)).toUInt32.toUInt16.toUInt32.toInt32)), .val (.int ((p3 &&& (255 : Int32)).toUInt32.toUInt16.toUInt32.toInt32)), .val (.int (f_first (p1 &&& (1 : Int32)))), .val (.int ((p0 &&& (2147483647 : Int32)) % (10 : Int32))), .unset, .unset] [(.int (3 : Int32)), (.int ((p0 &&& (2147483647 : Int32)) % (10 : Int32)))])) _
                    refine XS.icmpYes X0.here hx rfl (pc0 := 79) (pc' := 88) rfl (hb hby at_79) rfl (feq hcase3).2 (by decide) (by decide) ?_
                    show Steps p.tables e below (s₁.setTop (mkF m 88 #[.val (.int p0), .val (.int p1), .val (.int p2), .val (.int p3), .val (.int ((p2 &&& (255 : Int32)).toUInt32.toUInt16.toUInt32.toInt32)), .val (.int ((p3 &&& (255 : Int32)).toUInt32.toUInt16.toUInt32.toInt32)), .val (.int (f_first (p1 &&& (1 : Int32)))), .val (.int ((p0 &&& (2147483647 : Int32)) % (10 : Int32))), .unset, .unset] [])) _
                    refine XS.iload X0.here hx rfl (hb hby at_88) rfl ?_
                    show Steps p.tables e below (s₁.setTop (mkF m 90 #[.val (.int p0), .val (.int p1), .val (.int p2), .val (.int p3), .val (.int ((p2 &&& (255 : Int32)).toUInt32.toUInt16.toUInt32.toInt32)), .val (.int ((p3 &&& (255 : Int32)).toUInt32.toUInt16.toUInt32.toInt32)), .val (.int (f_first (p1 &&& (1 : Int32)))), .val (.int ((p0 &&& (2147483647 : Int32)) % (10 : Int32))), .unset, .unset] [(.int ((p0 &&& (2147483647 : Int32)) % (10 : Int32)))])) _
                    refine XS.iconst X0.here hx rfl (hb hby at_90) ?_
                    show Steps p.tables e below (s₁.setTop (mkF m 91 #[.val (.int p0), .val (.int p1), .val (.int p2), .val (.int p3), .val (.int ((p2 &&& (255 : Int32)).toUInt32.toUInt16.toUInt32.toInt32)), .val (.int ((p3 &&& (255 : Int32)).toUInt32.toUInt16.toUInt32.toInt32)), .val (.int (f_first (p1 &&& (1 : Int32)))), .val (.int ((p0 &&& (2147483647 : Int32)) % (10 : Int32))), .unset, .unset] [(.int (4 : Int32)), (.int ((p0 &&& (2147483647 : Int32)) % (10 : Int32)))])) _
                    refine XS.icmpYes X0.here hx rfl (pc0 := 91) (pc' := 168) rfl (hb hby at_91) rfl (feq hcase4).2 (by decide) (by decide) ?_
                    show Steps p.tables e below (s₁.setTop (mkF m 168 #[.val (.int p0), .val (.int p1), .val (.int p2), .val (.int p3), .val (.int ((p2 &&& (255 : Int32)).toUInt32.toUInt16.toUInt32.toInt32)), .val (.int ((p3 &&& (255 : Int32)).toUInt32.toUInt16.toUInt32.toInt32)), .val (.int (f_first (p1 &&& (1 : Int32)))), .val (.int ((p0 &&& (2147483647 : Int32)) % (10 : Int32))), .unset, .unset] [])) _
                    refine XS.iload X0.here hx rfl (hb hby at_168) rfl ?_
                    show Steps p.tables e below (s₁.setTop (mkF m 170 #[.val (.int p0), .val (.int p1), .val (.int p2), .val (.int p3), .val (.int ((p2 &&& (255 : Int32)).toUInt32.toUInt16.toUInt32.toInt32)), .val (.int ((p3 &&& (255 : Int32)).toUInt32.toUInt16.toUInt32.toInt32)), .val (.int (f_first (p1 &&& (1 : Int32)))), .val (.int ((p0 &&& (2147483647 : Int32)) % (10 : Int32))), .unset, .unset] [(.int ((p0 &&& (2147483647 : Int32)) % (10 : Int32)))])) _
                    refine XS.iconst X0.here hx rfl (hb hby at_170) ?_
                    show Steps p.tables e below (s₁.setTop (mkF m 171 #[.val (.int p0), .val (.int p1), .val (.int p2), .val (.int p3), .val (.int ((p2 &&& (255 : Int32)).toUInt32.toUInt16.toUInt32.toInt32)), .val (.int ((p3 &&& (255 : Int32)).toUInt32.toUInt16.toUInt32.toInt32)), .val (.int (f_first (p1 &&& (1 : Int32)))), .val (.int ((p0 &&& (2147483647 : Int32)) % (10 : Int32))), .unset, .unset] [(.int (5 : Int32)), (.int ((p0 &&& (2147483647 : Int32)) % (10 : Int32)))])) _
                    refine XS.icmpYes X0.here hx rfl (pc0 := 171) (pc' := 272) rfl (hb hby at_171) rfl (feq hcase5).2 (by decide) (by decide) ?_
                    show Steps p.tables e below (s₁.setTop (mkF m 272 #[.val (.int p0), .val (.int p1), .val (.int p2), .val (.int p3), .val (.int ((p2 &&& (255 : Int32)).toUInt32.toUInt16.toUInt32.toInt32)), .val (.int ((p3 &&& (255 : Int32)).toUInt32.toUInt16.toUInt32.toInt32)), .val (.int (f_first (p1 &&& (1 : Int32)))), .val (.int ((p0 &&& (2147483647 : Int32)) % (10 : Int32))), .unset, .unset] [])) _
                    refine XS.iload X0.here hx rfl (hb hby at_272) rfl ?_
                    show Steps p.tables e below (s₁.setTop (mkF m 274 #[.val (.int p0), .val (.int p1), .val (.int p2), .val (.int p3), .val (.int ((p2 &&& (255 : Int32)).toUInt32.toUInt16.toUInt32.toInt32)), .val (.int ((p3 &&& (255 : Int32)).toUInt32.toUInt16.toUInt32.toInt32)), .val (.int (f_first (p1 &&& (1 : Int32)))), .val (.int ((p0 &&& (2147483647 : Int32)) % (10 : Int32))), .unset, .unset] [(.int ((p0 &&& (2147483647 : Int32)) % (10 : Int32)))])) _
                    refine XS.bipush X0.here hx rfl (hb hby at_274) ?_
                    show Steps p.tables e below (s₁.setTop (mkF m 276 #[.val (.int p0), .val (.int p1), .val (.int p2), .val (.int p3), .val (.int ((p2 &&& (255 : Int32)).toUInt32.toUInt16.toUInt32.toInt32)), .val (.int ((p3 &&& (255 : Int32)).toUInt32.toUInt16.toUInt32.toInt32)), .val (.int (f_first (p1 &&& (1 : Int32)))), .val (.int ((p0 &&& (2147483647 : Int32)) % (10 : Int32))), .unset, .unset] [(.int (6 : Int32)), (.int ((p0 &&& (2147483647 : Int32)) % (10 : Int32)))])) _
                    refine XS.icmpNo X0.here hx rfl (hb hby at_276) rfl (teq hcase6).2 ?_
                    show Steps p.tables e below (s₁.setTop (mkF m 279 #[.val (.int p0), .val (.int p1), .val (.int p2), .val (.int p3), .val (.int ((p2 &&& (255 : Int32)).toUInt32.toUInt16.toUInt32.toInt32)), .val (.int ((p3 &&& (255 : Int32)).toUInt32.toUInt16.toUInt32.toInt32)), .val (.int (f_first (p1 &&& (1 : Int32)))), .val (.int ((p0 &&& (2147483647 : Int32)) % (10 : Int32))), .unset, .unset] [])) _
                    refine XS.iload X0.here hx rfl (hb hby at_279) rfl ?_
                    show Steps p.tables e below (s₁.setTop (mkF m 281 #[.val (.int p0), .val (.int p1), .val (.int p2), .val (.int p3), .val (.int ((p2 &&& (255 : Int32)).toUInt32.toUInt16.toUInt32.toInt32)), .val (.int ((p3 &&& (255 : Int32)).toUInt32.toUInt16.toUInt32.toInt32)), .val (.int (f_first (p1 &&& (1 : Int32)))), .val (.int ((p0 &&& (2147483647 : Int32)) % (10 : Int32))), .unset, .unset] [(.int (f_first (p1 &&& (1 : Int32))))])) _
                    refine XS.ifYes X0.here hx rfl (pc0 := 281) (pc' := 352) rfl (hb hby at_281) rfl ((if0 _ _).trans (teq hff).1) (by decide) (by decide) ?_
                    show Steps p.tables e below (s₁.setTop (mkF m 352 #[.val (.int p0), .val (.int p1), .val (.int p2), .val (.int p3), .val (.int ((p2 &&& (255 : Int32)).toUInt32.toUInt16.toUInt32.toInt32)), .val (.int ((p3 &&& (255 : Int32)).toUInt32.toUInt16.toUInt32.toInt32)), .val (.int (f_first (p1 &&& (1 : Int32)))), .val (.int ((p0 &&& (2147483647 : Int32)) % (10 : Int32))), .unset, .unset] [])) _
                    refine XS.bipush X0.here hx rfl (hb hby at_352) ?_
                    show Steps p.tables e below (s₁.setTop (mkF m 354 #[.val (.int p0), .val (.int p1), .val (.int p2), .val (.int p3), .val (.int ((p2 &&& (255 : Int32)).toUInt32.toUInt16.toUInt32.toInt32)), .val (.int ((p3 &&& (255 : Int32)).toUInt32.toUInt16.toUInt32.toInt32)), .val (.int (f_first (p1 &&& (1 : Int32)))), .val (.int ((p0 &&& (2147483647 : Int32)) % (10 : Int32))), .unset, .unset] [(.int (13 : Int32))])) _
                    refine str1 _ ?_
                    show Steps p.tables e below (Tr1.setTop (mkF m 356 #[.val (.int p0), .val (.int p1), .val (.int p2), .val (.int p3), .val (.int ((p2 &&& (255 : Int32)).toUInt32.toUInt16.toUInt32.toInt32)), .val (.int ((p3 &&& (255 : Int32)).toUInt32.toUInt16.toUInt32.toInt32)), .val (.int (f_first (p1 &&& (1 : Int32)))), .val (.int ((p0 &&& (2147483647 : Int32)) % (10 : Int32))), .unset, .unset] [(.ref br1)])) _
                    refine XS.dup Xr1.here hx rfl (hb hby at_356) rfl rfl ?_
                    show Steps p.tables e below (Tr1.setTop (mkF m 357 #[.val (.int p0), .val (.int p1), .val (.int p2), .val (.int p3), .val (.int ((p2 &&& (255 : Int32)).toUInt32.toUInt16.toUInt32.toInt32)), .val (.int ((p3 &&& (255 : Int32)).toUInt32.toUInt16.toUInt32.toInt32)), .val (.int (f_first (p1 &&& (1 : Int32)))), .val (.int ((p0 &&& (2147483647 : Int32)) % (10 : Int32))), .unset, .unset] [(.ref br1), (.ref br1)])) _
                    refine XS.iconst Xr1.here hx rfl (hb hby at_357) ?_
                    show Steps p.tables e below (Tr1.setTop (mkF m 358 #[.val (.int p0), .val (.int p1), .val (.int p2), .val (.int p3), .val (.int ((p2 &&& (255 : Int32)).toUInt32.toUInt16.toUInt32.toInt32)), .val (.int ((p3 &&& (255 : Int32)).toUInt32.toUInt16.toUInt32.toInt32)), .val (.int (f_first (p1 &&& (1 : Int32)))), .val (.int ((p0 &&& (2147483647 : Int32)) % (10 : Int32))), .unset, .unset] [(.int (0 : Int32)), (.ref br1), (.ref br1)])) _
                    refine XS.bipush Xr1.here hx rfl (hb hby at_358) ?_
                    show Steps p.tables e below (Tr1.setTop (mkF m 360 #[.val (.int p0), .val (.int p1), .val (.int p2), .val (.int p3), .val (.int ((p2 &&& (255 : Int32)).toUInt32.toUInt16.toUInt32.toInt32)), .val (.int ((p3 &&& (255 : Int32)).toUInt32.toUInt16.toUInt32.toInt32)), .val (.int (f_first (p1 &&& (1 : Int32)))), .val (.int ((p0 &&& (2147483647 : Int32)) % (10 : Int32))), .unset, .unset] [(.int (105 : Int32)), (.int (0 : Int32)), (.ref br1), (.ref br1)])) _
                    refine str2 _ ?_
                    show Steps p.tables e below (Tr2.setTop (mkF m 361 #[.val (.int p0), .val (.int p1), .val (.int p2), .val (.int p3), .val (.int ((p2 &&& (255 : Int32)).toUInt32.toUInt16.toUInt32.toInt32)), .val (.int ((p3 &&& (255 : Int32)).toUInt32.toUInt16.toUInt32.toInt32)), .val (.int (f_first (p1 &&& (1 : Int32)))), .val (.int ((p0 &&& (2147483647 : Int32)) % (10 : Int32))), .unset, .unset] [(.ref br1)])) _
                    refine XS.dup Xr2.here hx rfl (hb hby at_361) rfl rfl ?_
                    show Steps p.tables e below (Tr2.setTop (mkF m 362 #[.val (.int p0), .val (.int p1), .val (.int p2), .val (.int p3), .val (.int ((p2 &&& (255 : Int32)).toUInt32.toUInt16.toUInt32.toInt32)), .val (.int ((p3 &&& (255 : Int32)).toUInt32.toUInt16.toUInt32.toInt32)), .val (.int (f_first (p1 &&& (1 : Int32)))), .val (.int ((p0 &&& (2147483647 : Int32)) % (10 : Int32))), .unset, .unset] [(.ref br1), (.ref br1)])) _
                    refine XS.iconst Xr2.here hx rfl (hb hby at_362) ?_
                    show Steps p.tables e below (Tr2.setTop (mkF m 363 #[.val (.int p0), .val (.int p1), .val (.int p2), .val (.int p3), .val (.int ((p2 &&& (255 : Int32)).toUInt32.toUInt16.toUInt32.toInt32)), .val (.int ((p3 &&& (255 : Int32)).toUInt32.toUInt16.toUInt32.toInt32)), .val (.int (f_first (p1 &&& (1 : Int32)))), .val (.int ((p0 &&& (2147483647 : Int32)) % (10 : Int32))), .unset, .unset] [(.int (1 : Int32)), (.ref br1), (.ref br1)])) _
                    refine XS.bipush Xr2.here hx rfl (hb hby at_363) ?_
                    show Steps p.tables e below (Tr2.setTop (mkF m 365 #[.val (.int p0), .val (.int p1), .val (.int p2), .val (.int p3), .val (.int ((p2 &&& (255 : Int32)).toUInt32.toUInt16.toUInt32.toInt32)), .val (.int ((p3 &&& (255 : Int32)).toUInt32.toUInt16.toUInt32.toInt32)), .val (.int (f_first (p1 &&& (1 : Int32)))), .val (.int ((p0 &&& (2147483647 : Int32)) % (10 : Int32))), .unset, .unset] [(.int (110 : Int32)), (.int (1 : Int32)), (.ref br1), (.ref br1)])) _
                    refine str3 _ ?_
                    show Steps p.tables e below (Tr3.setTop (mkF m 366 #[.val (.int p0), .val (.int p1), .val (.int p2), .val (.int p3), .val (.int ((p2 &&& (255 : Int32)).toUInt32.toUInt16.toUInt32.toInt32)), .val (.int ((p3 &&& (255 : Int32)).toUInt32.toUInt16.toUInt32.toInt32)), .val (.int (f_first (p1 &&& (1 : Int32)))), .val (.int ((p0 &&& (2147483647 : Int32)) % (10 : Int32))), .unset, .unset] [(.ref br1)])) _
                    refine XS.dup Xr3.here hx rfl (hb hby at_366) rfl rfl ?_
                    show Steps p.tables e below (Tr3.setTop (mkF m 367 #[.val (.int p0), .val (.int p1), .val (.int p2), .val (.int p3), .val (.int ((p2 &&& (255 : Int32)).toUInt32.toUInt16.toUInt32.toInt32)), .val (.int ((p3 &&& (255 : Int32)).toUInt32.toUInt16.toUInt32.toInt32)), .val (.int (f_first (p1 &&& (1 : Int32)))), .val (.int ((p0 &&& (2147483647 : Int32)) % (10 : Int32))), .unset, .unset] [(.ref br1), (.ref br1)])) _
                    refine XS.iconst Xr3.here hx rfl (hb hby at_367) ?_
                    show Steps p.tables e below (Tr3.setTop (mkF m 368 #[.val (.int p0), .val (.int p1), .val (.int p2), .val (.int p3), .val (.int ((p2 &&& (255 : Int32)).toUInt32.toUInt16.toUInt32.toInt32)), .val (.int ((p3 &&& (255 : Int32)).toUInt32.toUInt16.toUInt32.toInt32)), .val (.int (f_first (p1 &&& (1 : Int32)))), .val (.int ((p0 &&& (2147483647 : Int32)) % (10 : Int32))), .unset, .unset] [(.int (2 : Int32)), (.ref br1), (.ref br1)])) _
                    refine XS.bipush Xr3.here hx rfl (hb hby at_368) ?_
                    show Steps p.tables e below (Tr3.setTop (mkF m 370 #[.val (.int p0), .val (.int p1), .val (.int p2), .val (.int p3), .val (.int ((p2 &&& (255 : Int32)).toUInt32.toUInt16.toUInt32.toInt32)), .val (.int ((p3 &&& (255 : Int32)).toUInt32.toUInt16.toUInt32.toInt32)), .val (.int (f_first (p1 &&& (1 : Int32)))), .val (.int ((p0 &&& (2147483647 : Int32)) % (10 : Int32))), .unset, .unset] [(.int (115 : Int32)), (.int (2 : Int32)), (.ref br1), (.ref br1)])) _
                    refine str4 _ ?_
                    show Steps p.tables e below (Tr4.setTop (mkF m 371 #[.val (.int p0), .val (.int p1), .val (.int p2), .val (.int p3), .val (.int ((p2 &&& (255 : Int32)).toUInt32.toUInt16.toUInt32.toInt32)), .val (.int ((p3 &&& (255 : Int32)).toUInt32.toUInt16.toUInt32.toInt32)), .val (.int (f_first (p1 &&& (1 : Int32)))), .val (.int ((p0 &&& (2147483647 : Int32)) % (10 : Int32))), .unset, .unset] [(.ref br1)])) _
                    refine XS.dup Xr4.here hx rfl (hb hby at_371) rfl rfl ?_
                    show Steps p.tables e below (Tr4.setTop (mkF m 372 #[.val (.int p0), .val (.int p1), .val (.int p2), .val (.int p3), .val (.int ((p2 &&& (255 : Int32)).toUInt32.toUInt16.toUInt32.toInt32)), .val (.int ((p3 &&& (255 : Int32)).toUInt32.toUInt16.toUInt32.toInt32)), .val (.int (f_first (p1 &&& (1 : Int32)))), .val (.int ((p0 &&& (2147483647 : Int32)) % (10 : Int32))), .unset, .unset] [(.ref br1), (.ref br1)])) _
                    refine XS.iconst Xr4.here hx rfl (hb hby at_372) ?_
                    show Steps p.tables e below (Tr4.setTop (mkF m 373 #[.val (.int p0), .val (.int p1), .val (.int p2), .val (.int p3), .val (.int ((p2 &&& (255 : Int32)).toUInt32.toUInt16.toUInt32.toInt32)), .val (.int ((p3 &&& (255 : Int32)).toUInt32.toUInt16.toUInt32.toInt32)), .val (.int (f_first (p1 &&& (1 : Int32)))), .val (.int ((p0 &&& (2147483647 : Int32)) % (10 : Int32))), .unset, .unset] [(.int (3 : Int32)), (.ref br1), (.ref br1)])) _
                    refine XS.bipush Xr4.here hx rfl (hb hby at_373) ?_
                    show Steps p.tables e below (Tr4.setTop (mkF m 375 #[.val (.int p0), .val (.int p1), .val (.int p2), .val (.int p3), .val (.int ((p2 &&& (255 : Int32)).toUInt32.toUInt16.toUInt32.toInt32)), .val (.int ((p3 &&& (255 : Int32)).toUInt32.toUInt16.toUInt32.toInt32)), .val (.int (f_first (p1 &&& (1 : Int32)))), .val (.int ((p0 &&& (2147483647 : Int32)) % (10 : Int32))), .unset, .unset] [(.int (116 : Int32)), (.int (3 : Int32)), (.ref br1), (.ref br1)])) _
                    refine str5 _ ?_
                    show Steps p.tables e below (Tr5.setTop (mkF m 376 #[.val (.int p0), .val (.int p1), .val (.int p2), .val (.int p3), .val (.int ((p2 &&& (255 : Int32)).toUInt32.toUInt16.toUInt32.toInt32)), .val (.int ((p3 &&& (255 : Int32)).toUInt32.toUInt16.toUInt32.toInt32)), .val (.int (f_first (p1 &&& (1 : Int32)))), .val (.int ((p0 &&& (2147483647 : Int32)) % (10 : Int32))), .unset, .unset] [(.ref br1)])) _
                    refine XS.dup Xr5.here hx rfl (hb hby at_376) rfl rfl ?_
                    show Steps p.tables e below (Tr5.setTop (mkF m 377 #[.val (.int p0), .val (.int p1), .val (.int p2), .val (.int p3), .val (.int ((p2 &&& (255 : Int32)).toUInt32.toUInt16.toUInt32.toInt32)), .val (.int ((p3 &&& (255 : Int32)).toUInt32.toUInt16.toUInt32.toInt32)), .val (.int (f_first (p1 &&& (1 : Int32)))), .val (.int ((p0 &&& (2147483647 : Int32)) % (10 : Int32))), .unset, .unset] [(.ref br1), (.ref br1)])) _
                    refine XS.iconst Xr5.here hx rfl (hb hby at_377) ?_
                    show Steps p.tables e below (Tr5.setTop (mkF m 378 #[.val (.int p0), .val (.int p1), .val (.int p2), .val (.int p3), .val (.int ((p2 &&& (255 : Int32)).toUInt32.toUInt16.toUInt32.toInt32)), .val (.int ((p3 &&& (255 : Int32)).toUInt32.toUInt16.toUInt32.toInt32)), .val (.int (f_first (p1 &&& (1 : Int32)))), .val (.int ((p0 &&& (2147483647 : Int32)) % (10 : Int32))), .unset, .unset] [(.int (4 : Int32)), (.ref br1), (.ref br1)])) _
                    refine XS.bipush Xr5.here hx rfl (hb hby at_378) ?_
                    show Steps p.tables e below (Tr5.setTop (mkF m 380 #[.val (.int p0), .val (.int p1), .val (.int p2), .val (.int p3), .val (.int ((p2 &&& (255 : Int32)).toUInt32.toUInt16.toUInt32.toInt32)), .val (.int ((p3 &&& (255 : Int32)).toUInt32.toUInt16.toUInt32.toInt32)), .val (.int (f_first (p1 &&& (1 : Int32)))), .val (.int ((p0 &&& (2147483647 : Int32)) % (10 : Int32))), .unset, .unset] [(.int (97 : Int32)), (.int (4 : Int32)), (.ref br1), (.ref br1)])) _
                    refine str6 _ ?_
                    show Steps p.tables e below (Tr6.setTop (mkF m 381 #[.val (.int p0), .val (.int p1), .val (.int p2), .val (.int p3), .val (.int ((p2 &&& (255 : Int32)).toUInt32.toUInt16.toUInt32.toInt32)), .val (.int ((p3 &&& (255 : Int32)).toUInt32.toUInt16.toUInt32.toInt32)), .val (.int (f_first (p1 &&& (1 : Int32)))), .val (.int ((p0 &&& (2147483647 : Int32)) % (10 : Int32))), .unset, .unset] [(.ref br1)])) _
                    refine XS.dup Xr6.here hx rfl (hb hby at_381) rfl rfl ?_
                    show Steps p.tables e below (Tr6.setTop (mkF m 382 #[.val (.int p0), .val (.int p1), .val (.int p2), .val (.int p3), .val (.int ((p2 &&& (255 : Int32)).toUInt32.toUInt16.toUInt32.toInt32)), .val (.int ((p3 &&& (255 : Int32)).toUInt32.toUInt16.toUInt32.toInt32)), .val (.int (f_first (p1 &&& (1 : Int32)))), .val (.int ((p0 &&& (2147483647 : Int32)) % (10 : Int32))), .unset, .unset] [(.ref br1), (.ref br1)])) _
                    refine XS.iconst Xr6.here hx rfl (hb hby at_382) ?_
                    show Steps p.tables e below (Tr6.setTop (mkF m 383 #[.val (.int p0), .val (.int p1), .val (.int p2), .val (.int p3), .val (.int ((p2 &&& (255 : Int32)).toUInt32.toUInt16.toUInt32.toInt32)), .val (.int ((p3 &&& (255 : Int32)).toUInt32.toUInt16.toUInt32.toInt32)), .val (.int (f_first (p1 &&& (1 : Int32)))), .val (.int ((p0 &&& (2147483647 : Int32)) % (10 : Int32))), .unset, .unset] [(.int (5 : Int32)), (.ref br1), (.ref br1)])) _
                    refine XS.bipush Xr6.here hx rfl (hb hby at_383) ?_
                    show Steps p.tables e below (Tr6.setTop (mkF m 385 #[.val (.int p0), .val (.int p1), .val (.int p2), .val (.int p3), .val (.int ((p2 &&& (255 : Int32)).toUInt32.toUInt16.toUInt32.toInt32)), .val (.int ((p3 &&& (255 : Int32)).toUInt32.toUInt16.toUInt32.toInt32)), .val (.int (f_first (p1 &&& (1 : Int32)))), .val (.int ((p0 &&& (2147483647 : Int32)) % (10 : Int32))), .unset, .unset] [(.int (108 : Int32)), (.int (5 : Int32)), (.ref br1), (.ref br1)])) _
                    refine str7 _ ?_
                    show Steps p.tables e below (Tr7.setTop (mkF m 386 #[.val (.int p0), .val (.int p1), .val (.int p2), .val (.int p3), .val (.int ((p2 &&& (255 : Int32)).toUInt32.toUInt16.toUInt32.toInt32)), .val (.int ((p3 &&& (255 : Int32)).toUInt32.toUInt16.toUInt32.toInt32)), .val (.int (f_first (p1 &&& (1 : Int32)))), .val (.int ((p0 &&& (2147483647 : Int32)) % (10 : Int32))), .unset, .unset] [(.ref br1)])) _
                    refine XS.dup Xr7.here hx rfl (hb hby at_386) rfl rfl ?_
                    show Steps p.tables e below (Tr7.setTop (mkF m 387 #[.val (.int p0), .val (.int p1), .val (.int p2), .val (.int p3), .val (.int ((p2 &&& (255 : Int32)).toUInt32.toUInt16.toUInt32.toInt32)), .val (.int ((p3 &&& (255 : Int32)).toUInt32.toUInt16.toUInt32.toInt32)), .val (.int (f_first (p1 &&& (1 : Int32)))), .val (.int ((p0 &&& (2147483647 : Int32)) % (10 : Int32))), .unset, .unset] [(.ref br1), (.ref br1)])) _
                    refine XS.bipush Xr7.here hx rfl (hb hby at_387) ?_
                    show Steps p.tables e below (Tr7.setTop (mkF m 389 #[.val (.int p0), .val (.int p1), .val (.int p2), .val (.int p3), .val (.int ((p2 &&& (255 : Int32)).toUInt32.toUInt16.toUInt32.toInt32)), .val (.int ((p3 &&& (255 : Int32)).toUInt32.toUInt16.toUInt32.toInt32)), .val (.int (f_first (p1 &&& (1 : Int32)))), .val (.int ((p0 &&& (2147483647 : Int32)) % (10 : Int32))), .unset, .unset] [(.int (6 : Int32)), (.ref br1), (.ref br1)])) _
                    refine XS.bipush Xr7.here hx rfl (hb hby at_389) ?_
                    show Steps p.tables e below (Tr7.setTop (mkF m 391 #[.val (.int p0), .val (.int p1), .val (.int p2), .val (.int p3), .val (.int ((p2 &&& (255 : Int32)).toUInt32.toUInt16.toUInt32.toInt32)), .val (.int ((p3 &&& (255 : Int32)).toUInt32.toUInt16.toUInt32.toInt32)), .val (.int (f_first (p1 &&& (1 : Int32)))), .val (.int ((p0 &&& (2147483647 : Int32)) % (10 : Int32))), .unset, .unset] [(.int (108 : Int32)), (.int (6 : Int32)), (.ref br1), (.ref br1)])) _
                    refine str8 _ ?_
                    show Steps p.tables e below (Tr8.setTop (mkF m 392 #[.val (.int p0), .val (.int p1), .val (.int p2), .val (.int p3), .val (.int ((p2 &&& (255 : Int32)).toUInt32.toUInt16.toUInt32.toInt32)), .val (.int ((p3 &&& (255 : Int32)).toUInt32.toUInt16.toUInt32.toInt32)), .val (.int (f_first (p1 &&& (1 : Int32)))), .val (.int ((p0 &&& (2147483647 : Int32)) % (10 : Int32))), .unset, .unset] [(.ref br1)])) _
                    refine XS.dup Xr8.here hx rfl (hb hby at_392) rfl rfl ?_
                    show Steps p.tables e below (Tr8.setTop (mkF m 393 #[.val (.int p0), .val (.int p1), .val (.int p2), .val (.int p3), .val (.int ((p2 &&& (255 : Int32)).toUInt32.toUInt16.toUInt32.toInt32)), .val (.int ((p3 &&& (255 : Int32)).toUInt32.toUInt16.toUInt32.toInt32)), .val (.int (f_first (p1 &&& (1 : Int32)))), .val (.int ((p0 &&& (2147483647 : Int32)) % (10 : Int32))), .unset, .unset] [(.ref br1), (.ref br1)])) _
                    refine XS.bipush Xr8.here hx rfl (hb hby at_393) ?_
                    show Steps p.tables e below (Tr8.setTop (mkF m 395 #[.val (.int p0), .val (.int p1), .val (.int p2), .val (.int p3), .val (.int ((p2 &&& (255 : Int32)).toUInt32.toUInt16.toUInt32.toInt32)), .val (.int ((p3 &&& (255 : Int32)).toUInt32.toUInt16.toUInt32.toInt32)), .val (.int (f_first (p1 &&& (1 : Int32)))), .val (.int ((p0 &&& (2147483647 : Int32)) % (10 : Int32))), .unset, .unset] [(.int (7 : Int32)), (.ref br1), (.ref br1)])) _
                    refine XS.bipush Xr8.here hx rfl (hb hby at_395) ?_
                    show Steps p.tables e below (Tr8.setTop (mkF m 397 #[.val (.int p0), .val (.int p1), .val (.int p2), .val (.int p3), .val (.int ((p2 &&& (255 : Int32)).toUInt32.toUInt16.toUInt32.toInt32)), .val (.int ((p3 &&& (255 : Int32)).toUInt32.toUInt16.toUInt32.toInt32)), .val (.int (f_first (p1 &&& (1 : Int32)))), .val (.int ((p0 &&& (2147483647 : Int32)) % (10 : Int32))), .unset, .unset] [(.int (109 : Int32)), (.int (7 : Int32)), (.ref br1), (.ref br1)])) _
                    refine str9 _ ?_
                    show Steps p.tables e below (Tr9.setTop (mkF m 398 #[.val (.int p0), .val (.int p1), .val (.int p2), .val (.int p3), .val (.int ((p2 &&& (255 : Int32)).toUInt32.toUInt16.toUInt32.toInt32)), .val (.int ((p3 &&& (255 : Int32)).toUInt32.toUInt16.toUInt32.toInt32)), .val (.int (f_first (p1 &&& (1 : Int32)))), .val (.int ((p0 &&& (2147483647 : Int32)) % (10 : Int32))), .unset, .unset] [(.ref br1)])) _
                    refine XS.dup Xr9.here hx rfl (hb hby at_398) rfl rfl ?_
                    show Steps p.tables e below (Tr9.setTop (mkF m 399 #[.val (.int p0), .val (.int p1), .val (.int p2), .val (.int p3), .val (.int ((p2 &&& (255 : Int32)).toUInt32.toUInt16.toUInt32.toInt32)), .val (.int ((p3 &&& (255 : Int32)).toUInt32.toUInt16.toUInt32.toInt32)), .val (.int (f_first (p1 &&& (1 : Int32)))), .val (.int ((p0 &&& (2147483647 : Int32)) % (10 : Int32))), .unset, .unset] [(.ref br1), (.ref br1)])) _
                    refine XS.bipush Xr9.here hx rfl (hb hby at_399) ?_
                    show Steps p.tables e below (Tr9.setTop (mkF m 401 #[.val (.int p0), .val (.int p1), .val (.int p2), .val (.int p3), .val (.int ((p2 &&& (255 : Int32)).toUInt32.toUInt16.toUInt32.toInt32)), .val (.int ((p3 &&& (255 : Int32)).toUInt32.toUInt16.toUInt32.toInt32)), .val (.int (f_first (p1 &&& (1 : Int32)))), .val (.int ((p0 &&& (2147483647 : Int32)) % (10 : Int32))), .unset, .unset] [(.int (8 : Int32)), (.ref br1), (.ref br1)])) _
                    refine XS.bipush Xr9.here hx rfl (hb hby at_401) ?_
                    show Steps p.tables e below (Tr9.setTop (mkF m 403 #[.val (.int p0), .val (.int p1), .val (.int p2), .val (.int p3), .val (.int ((p2 &&& (255 : Int32)).toUInt32.toUInt16.toUInt32.toInt32)), .val (.int ((p3 &&& (255 : Int32)).toUInt32.toUInt16.toUInt32.toInt32)), .val (.int (f_first (p1 &&& (1 : Int32)))), .val (.int ((p0 &&& (2147483647 : Int32)) % (10 : Int32))), .unset, .unset] [(.int (101 : Int32)), (.int (8 : Int32)), (.ref br1), (.ref br1)])) _
                    refine str10 _ ?_
                    show Steps p.tables e below (Tr10.setTop (mkF m 404 #[.val (.int p0), .val (.int p1), .val (.int p2), .val (.int p3), .val (.int ((p2 &&& (255 : Int32)).toUInt32.toUInt16.toUInt32.toInt32)), .val (.int ((p3 &&& (255 : Int32)).toUInt32.toUInt16.toUInt32.toInt32)), .val (.int (f_first (p1 &&& (1 : Int32)))), .val (.int ((p0 &&& (2147483647 : Int32)) % (10 : Int32))), .unset, .unset] [(.ref br1)])) _
                    refine XS.dup Xr10.here hx rfl (hb hby at_404) rfl rfl ?_
                    show Steps p.tables e below (Tr10.setTop (mkF m 405 #[.val (.int p0), .val (.int p1), .val (.int p2), .val (.int p3), .val (.int ((p2 &&& (255 : Int32)).toUInt32.toUInt16.toUInt32.toInt32)), .val (.int ((p3 &&& (255 : Int32)).toUInt32.toUInt16.toUInt32.toInt32)), .val (.int (f_first (p1 &&& (1 : Int32)))), .val (.int ((p0 &&& (2147483647 : Int32)) % (10 : Int32))), .unset, .unset] [(.ref br1), (.ref br1)])) _
                    refine XS.bipush Xr10.here hx rfl (hb hby at_405) ?_
                    show Steps p.tables e below (Tr10.setTop (mkF m 407 #[.val (.int p0), .val (.int p1), .val (.int p2), .val (.int p3), .val (.int ((p2 &&& (255 : Int32)).toUInt32.toUInt16.toUInt32.toInt32)), .val (.int ((p3 &&& (255 : Int32)).toUInt32.toUInt16.toUInt32.toInt32)), .val (.int (f_first (p1 &&& (1 : Int32)))), .val (.int ((p0 &&& (2147483647 : Int32)) % (10 : Int32))), .unset, .unset] [(.int (9 : Int32)), (.ref br1), (.ref br1)])) _
                    refine XS.bipush Xr10.here hx rfl (hb hby at_407) ?_
                    show Steps p.tables e below (Tr10.setTop (mkF m 409 #[.val (.int p0), .val (.int p1), .val (.int p2), .val (.int p3), .val (.int ((p2 &&& (255 : Int32)).toUInt32.toUInt16.toUInt32.toInt32)), .val (.int ((p3 &&& (255 : Int32)).toUInt32.toUInt16.toUInt32.toInt32)), .val (.int (f_first (p1 &&& (1 : Int32)))), .val (.int ((p0 &&& (2147483647 : Int32)) % (10 : Int32))), .unset, .unset] [(.int (110 : Int32)), (.int (9 : Int32)), (.ref br1), (.ref br1)])) _
                    refine str11 _ ?_
                    show Steps p.tables e below (Tr11.setTop (mkF m 410 #[.val (.int p0), .val (.int p1), .val (.int p2), .val (.int p3), .val (.int ((p2 &&& (255 : Int32)).toUInt32.toUInt16.toUInt32.toInt32)), .val (.int ((p3 &&& (255 : Int32)).toUInt32.toUInt16.toUInt32.toInt32)), .val (.int (f_first (p1 &&& (1 : Int32)))), .val (.int ((p0 &&& (2147483647 : Int32)) % (10 : Int32))), .unset, .unset] [(.ref br1)])) _
                    refine XS.dup Xr11.here hx rfl (hb hby at_410) rfl rfl ?_
                    show Steps p.tables e below (Tr11.setTop (mkF m 411 #[.val (.int p0), .val (.int p1), .val (.int p2), .val (.int p3), .val (.int ((p2 &&& (255 : Int32)).toUInt32.toUInt16.toUInt32.toInt32)), .val (.int ((p3 &&& (255 : Int32)).toUInt32.toUInt16.toUInt32.toInt32)), .val (.int (f_first (p1 &&& (1 : Int32)))), .val (.int ((p0 &&& (2147483647 : Int32)) % (10 : Int32))), .unset, .unset] [(.ref br1), (.ref br1)])) _
                    refine XS.bipush Xr11.here hx rfl (hb hby at_411) ?_
                    show Steps p.tables e below (Tr11.setTop (mkF m 413 #[.val (.int p0), .val (.int p1), .val (.int p2), .val (.int p3), .val (.int ((p2 &&& (255 : Int32)).toUInt32.toUInt16.toUInt32.toInt32)), .val (.int ((p3 &&& (255 : Int32)).toUInt32.toUInt16.toUInt32.toInt32)), .val (.int (f_first (p1 &&& (1 : Int32)))), .val (.int ((p0 &&& (2147483647 : Int32)) % (10 : Int32))), .unset, .unset] [(.int (10 : Int32)), (.ref br1), (.ref br1)])) _
                    refine XS.bipush Xr11.here hx rfl (hb hby at_413) ?_
                    show Steps p.tables e below (Tr11.setTop (mkF m 415 #[.val (.int p0), .val (.int p1), .val (.int p2), .val (.int p3), .val (.int ((p2 &&& (255 : Int32)).toUInt32.toUInt16.toUInt32.toInt32)), .val (.int ((p3 &&& (255 : Int32)).toUInt32.toUInt16.toUInt32.toInt32)), .val (.int (f_first (p1 &&& (1 : Int32)))), .val (.int ((p0 &&& (2147483647 : Int32)) % (10 : Int32))), .unset, .unset] [(.int (116 : Int32)), (.int (10 : Int32)), (.ref br1), (.ref br1)])) _
                    refine str12 _ ?_
                    show Steps p.tables e below (Tr12.setTop (mkF m 416 #[.val (.int p0), .val (.int p1), .val (.int p2), .val (.int p3), .val (.int ((p2 &&& (255 : Int32)).toUInt32.toUInt16.toUInt32.toInt32)), .val (.int ((p3 &&& (255 : Int32)).toUInt32.toUInt16.toUInt32.toInt32)), .val (.int (f_first (p1 &&& (1 : Int32)))), .val (.int ((p0 &&& (2147483647 : Int32)) % (10 : Int32))), .unset, .unset] [(.ref br1)])) _
                    refine XS.dup Xr12.here hx rfl (hb hby at_416) rfl rfl ?_
                    show Steps p.tables e below (Tr12.setTop (mkF m 417 #[.val (.int p0), .val (.int p1), .val (.int p2), .val (.int p3), .val (.int ((p2 &&& (255 : Int32)).toUInt32.toUInt16.toUInt32.toInt32)), .val (.int ((p3 &&& (255 : Int32)).toUInt32.toUInt16.toUInt32.toInt32)), .val (.int (f_first (p1 &&& (1 : Int32)))), .val (.int ((p0 &&& (2147483647 : Int32)) % (10 : Int32))), .unset, .unset] [(.ref br1), (.ref br1)])) _
                    refine XS.bipush Xr12.here hx rfl (hb hby at_417) ?_
                    show Steps p.tables e below (Tr12.setTop (mkF m 419 #[.val (.int p0), .val (.int p1), .val (.int p2), .val (.int p3), .val (.int ((p2 &&& (255 : Int32)).toUInt32.toUInt16.toUInt32.toInt32)), .val (.int ((p3 &&& (255 : Int32)).toUInt32.toUInt16.toUInt32.toInt32)), .val (.int (f_first (p1 &&& (1 : Int32)))), .val (.int ((p0 &&& (2147483647 : Int32)) % (10 : Int32))), .unset, .unset] [(.int (11 : Int32)), (.ref br1), (.ref br1)])) _
                    refine XS.bipush Xr12.here hx rfl (hb hby at_419) ?_
                    show Steps p.tables e below (Tr12.setTop (mkF m 421 #[.val (.int p0), .val (.int p1), .val (.int p2), .val (.int p3), .val (.int ((p2 &&& (255 : Int32)).toUInt32.toUInt16.toUInt32.toInt32)), .val (.int ((p3 &&& (255 : Int32)).toUInt32.toUInt16.toUInt32.toInt32)), .val (.int (f_first (p1 &&& (1 : Int32)))), .val (.int ((p0 &&& (2147483647 : Int32)) % (10 : Int32))), .unset, .unset] [(.int (115 : Int32)), (.int (11 : Int32)), (.ref br1), (.ref br1)])) _
                    refine str13 _ ?_
                    show Steps p.tables e below (Tr13.setTop (mkF m 422 #[.val (.int p0), .val (.int p1), .val (.int p2), .val (.int p3), .val (.int ((p2 &&& (255 : Int32)).toUInt32.toUInt16.toUInt32.toInt32)), .val (.int ((p3 &&& (255 : Int32)).toUInt32.toUInt16.toUInt32.toInt32)), .val (.int (f_first (p1 &&& (1 : Int32)))), .val (.int ((p0 &&& (2147483647 : Int32)) % (10 : Int32))), .unset, .unset] [(.ref br1)])) _
                    refine XS.dup Xr13.here hx rfl (hb hby at_422) rfl rfl ?_
                    show Steps p.tables e below (Tr13.setTop (mkF m 423 #[.val (.int p0), .val (.int p1), .val (.int p2), .val (.int p3), .val (.int ((p2 &&& (255 : Int32)).toUInt32.toUInt16.toUInt32.toInt32)), .val (.int ((p3 &&& (255 : Int32)).toUInt32.toUInt16.toUInt32.toInt32)), .val (.int (f_first (p1 &&& (1 : Int32)))), .val (.int ((p0 &&& (2147483647 : Int32)) % (10 : Int32))), .unset, .unset] [(.ref br1), (.ref br1)])) _
                    refine XS.bipush Xr13.here hx rfl (hb hby at_423) ?_
                    show Steps p.tables e below (Tr13.setTop (mkF m 425 #[.val (.int p0), .val (.int p1), .val (.int p2), .val (.int p3), .val (.int ((p2 &&& (255 : Int32)).toUInt32.toUInt16.toUInt32.toInt32)), .val (.int ((p3 &&& (255 : Int32)).toUInt32.toUInt16.toUInt32.toInt32)), .val (.int (f_first (p1 &&& (1 : Int32)))), .val (.int ((p0 &&& (2147483647 : Int32)) % (10 : Int32))), .unset, .unset] [(.int (12 : Int32)), (.ref br1), (.ref br1)])) _
                    refine XS.iload Xr13.here hx rfl (hb hby at_425) rfl ?_
                    show Steps p.tables e below (Tr13.setTop (mkF m 427 #[.val (.int p0), .val (.int p1), .val (.int p2), .val (.int p3), .val (.int ((p2 &&& (255 : Int32)).toUInt32.toUInt16.toUInt32.toInt32)), .val (.int ((p3 &&& (255 : Int32)).toUInt32.toUInt16.toUInt32.toInt32)), .val (.int (f_first (p1 &&& (1 : Int32)))), .val (.int ((p0 &&& (2147483647 : Int32)) % (10 : Int32))), .unset, .unset] [(.int ((p2 &&& (255 : Int32)).toUInt32.toUInt16.toUInt32.toInt32)), (.int (12 : Int32)), (.ref br1), (.ref br1)])) _
                    refine str14 _ ?_
                    show Steps p.tables e below (Tr14.setTop (mkF m 428 #[.val (.int p0), .val (.int p1), .val (.int p2), .val (.int p3), .val (.int ((p2 &&& (255 : Int32)).toUInt32.toUInt16.toUInt32.toInt32)), .val (.int ((p3 &&& (255 : Int32)).toUInt32.toUInt16.toUInt32.toInt32)), .val (.int (f_first (p1 &&& (1 : Int32)))), .val (.int ((p0 &&& (2147483647 : Int32)) % (10 : Int32))), .unset, .unset] [(.ref br1)])) _
                    refine XS.astore Xr14.here hx rfl (hb hby at_428) rfl rfl (l' := #[.val (.int p0), .val (.int p1), .val (.int p2), .val (.int p3), .val (.int ((p2 &&& (255 : Int32)).toUInt32.toUInt16.toUInt32.toInt32)), .val (.int ((p3 &&& (255 : Int32)).toUInt32.toUInt16.toUInt32.toInt32)), .val (.int (f_first (p1 &&& (1 : Int32)))), .val (.int ((p0 &&& (2147483647 : Int32)) % (10 : Int32))), .unset, .val (.ref br1)]) rfl ?_
                    show Steps p.tables e below (Tr14.setTop (mkF m 430 #[.val (.int p0), .val (.int p1), .val (.int p2), .val (.int p3), .val (.int ((p2 &&& (255 : Int32)).toUInt32.toUInt16.toUInt32.toInt32)), .val (.int ((p3 &&& (255 : Int32)).toUInt32.toUInt16.toUInt32.toInt32)), .val (.int (f_first (p1 &&& (1 : Int32)))), .val (.int ((p0 &&& (2147483647 : Int32)) % (10 : Int32))), .unset, .val (.ref br1)] [])) _
                    refine str15 _ ?_
                    show Steps p.tables e below (Tr15.setTop (mkF m 433 #[.val (.int p0), .val (.int p1), .val (.int p2), .val (.int p3), .val (.int ((p2 &&& (255 : Int32)).toUInt32.toUInt16.toUInt32.toInt32)), .val (.int ((p3 &&& (255 : Int32)).toUInt32.toUInt16.toUInt32.toInt32)), .val (.int (f_first (p1 &&& (1 : Int32)))), .val (.int ((p0 &&& (2147483647 : Int32)) % (10 : Int32))), .unset, .val (.ref br1)] [(.ref br15)])) _
                    refine XS.dup Xr15.here hx rfl (hb hby at_433) rfl rfl ?_
                    show Steps p.tables e below (Tr15.setTop (mkF m 434 #[.val (.int p0), .val (.int p1), .val (.int p2), .val (.int p3), .val (.int ((p2 &&& (255 : Int32)).toUInt32.toUInt16.toUInt32.toInt32)), .val (.int ((p3 &&& (255 : Int32)).toUInt32.toUInt16.toUInt32.toInt32)), .val (.int (f_first (p1 &&& (1 : Int32)))), .val (.int ((p0 &&& (2147483647 : Int32)) % (10 : Int32))), .unset, .val (.ref br1)] [(.ref br15), (.ref br15)])) _
                    refine XS.aload Xr15.here hx rfl (hb hby at_434) rfl rfl ?_
                    show Steps p.tables e below (Tr15.setTop (mkF m 436 #[.val (.int p0), .val (.int p1), .val (.int p2), .val (.int p3), .val (.int ((p2 &&& (255 : Int32)).toUInt32.toUInt16.toUInt32.toInt32)), .val (.int ((p3 &&& (255 : Int32)).toUInt32.toUInt16.toUInt32.toInt32)), .val (.int (f_first (p1 &&& (1 : Int32)))), .val (.int ((p0 &&& (2147483647 : Int32)) % (10 : Int32))), .unset, .val (.ref br1)] [(.ref br1), (.ref br15), (.ref br15)])) _
                    refine str16.trans ?_
                    show Steps p.tables e below (Tr16.setTop (mkF m 439 #[.val (.int p0), .val (.int p1), .val (.int p2), .val (.int p3), .val (.int ((p2 &&& (255 : Int32)).toUInt32.toUInt16.toUInt32.toInt32)), .val (.int ((p3 &&& (255 : Int32)).toUInt32.toUInt16.toUInt32.toInt32)), .val (.int (f_first (p1 &&& (1 : Int32)))), .val (.int ((p0 &&& (2147483647 : Int32)) % (10 : Int32))), .unset, .val (.ref br1)] [(.ref br15)])) _
                    refine XS.astore Xr16.here hx rfl (hb hby at_439) rfl rfl (l' := #[.val (.int p0), .val (.int p1), .val (.int p2), .val (.int p3), .val (.int ((p2 &&& (255 : Int32)).toUInt32.toUInt16.toUInt32.toInt32)), .val (.int ((p3 &&& (255 : Int32)).toUInt32.toUInt16.toUInt32.toInt32)), .val (.int (f_first (p1 &&& (1 : Int32)))), .val (.int ((p0 &&& (2147483647 : Int32)) % (10 : Int32))), .val (.ref br15), .val (.ref br1)]) rfl ?_
                    show Steps p.tables e below (Tr16.setTop (mkF m 441 #[.val (.int p0), .val (.int p1), .val (.int p2), .val (.int p3), .val (.int ((p2 &&& (255 : Int32)).toUInt32.toUInt16.toUInt32.toInt32)), .val (.int ((p3 &&& (255 : Int32)).toUInt32.toUInt16.toUInt32.toInt32)), .val (.int (f_first (p1 &&& (1 : Int32)))), .val (.int ((p0 &&& (2147483647 : Int32)) % (10 : Int32))), .val (.ref br15), .val (.ref br1)] [])) _
                    refine XS.goto Xr16.here hx rfl (pc0 := 441) (pc' := 632) rfl (hb hby at_441) (by decide) (by decide) ?_
                    show Steps p.tables e below (Tr16.setTop (mkF m 632 #[.val (.int p0), .val (.int p1), .val (.int p2), .val (.int p3), .val (.int ((p2 &&& (255 : Int32)).toUInt32.toUInt16.toUInt32.toInt32)), .val (.int ((p3 &&& (255 : Int32)).toUInt32.toUInt16.toUInt32.toInt32)), .val (.int (f_first (p1 &&& (1 : Int32)))), .val (.int ((p0 &&& (2147483647 : Int32)) % (10 : Int32))), .val (.ref br15), .val (.ref br1)] [])) _
                    exact hst
                  show Steps p.tables e below (s₁.setTop (mkF m 19 #[.val (.int p0), .val (.int p1), .val (.int p2), .val (.int p3), .val (.int ((p2 &&& (255 : Int32)).toUInt32.toUInt16.toUInt32.toInt32)), .val (.int ((p3 &&& (255 : Int32)).toUInt32.toUInt16.toUInt32.toInt32)), .unset, .unset, .unset, .unset] [(.int (p1 &&& (1 : Int32)))])) _
                  by_cases hc19_0 : (p1 &&& (1 : Int32)) = (0 : Int32)
                  · refine XS.ifNo X0.here hx rfl (hb hby at_19) rfl ((if0 _ _).trans (teq hc19_0).2) ?_
                    show Steps p.tables e below (s₁.setTop (mkF m 22 #[.val (.int p0), .val (.int p1), .val (.int p2), .val (.int p3), .val (.int ((p2 &&& (255 : Int32)).toUInt32.toUInt16.toUInt32.toInt32)), .val (.int ((p3 &&& (255 : Int32)).toUInt32.toUInt16.toUInt32.toInt32)), .unset, .unset, .unset, .unset] [])) _
                    refine XS.iconst X0.here hx rfl (hb hby at_22) ?_
                    show Steps p.tables e below (s₁.setTop (mkF m 23 #[.val (.int p0), .val (.int p1), .val (.int p2), .val (.int p3), .val (.int ((p2 &&& (255 : Int32)).toUInt32.toUInt16.toUInt32.toInt32)), .val (.int ((p3 &&& (255 : Int32)).toUInt32.toUInt16.toUInt32.toInt32)), .unset, .unset, .unset, .unset] [(.int (1 : Int32))])) _
                    refine XS.goto X0.here hx rfl (pc0 := 23) (pc' := 27) rfl (hb hby at_23) (by decide) (by decide) ?_
                    show Steps p.tables e below (s₁.setTop (mkF m 27 #[.val (.int p0), .val (.int p1), .val (.int p2), .val (.int p3), .val (.int ((p2 &&& (255 : Int32)).toUInt32.toUInt16.toUInt32.toInt32)), .val (.int ((p3 &&& (255 : Int32)).toUInt32.toUInt16.toUInt32.toInt32)), .unset, .unset, .unset, .unset] [(.int (1 : Int32))])) _
                    have hf : f_first (p1 &&& (1 : Int32)) = (1 : Int32) := by unfold f_first; rw [if_pos hc19_0]
                    rw [hf] at key
                    exact key
                  · refine XS.ifYes X0.here hx rfl (pc0 := 19) (pc' := 26) rfl (hb hby at_19) rfl ((if0 _ _).trans (feq hc19_0).2) (by decide) (by decide) ?_
                    show Steps p.tables e below (s₁.setTop (mkF m 26 #[.val (.int p0), .val (.int p1), .val (.int p2), .val (.int p3), .val (.int ((p2 &&& (255 : Int32)).toUInt32.toUInt16.toUInt32.toInt32)), .val (.int ((p3 &&& (255 : Int32)).toUInt32.toUInt16.toUInt32.toInt32)), .unset, .unset, .unset, .unset] [])) _
                    refine XS.iconst X0.here hx rfl (hb hby at_26) ?_
                    show Steps p.tables e below (s₁.setTop (mkF m 27 #[.val (.int p0), .val (.int p1), .val (.int p2), .val (.int p3), .val (.int ((p2 &&& (255 : Int32)).toUInt32.toUInt16.toUInt32.toInt32)), .val (.int ((p3 &&& (255 : Int32)).toUInt32.toUInt16.toUInt32.toInt32)), .unset, .unset, .unset, .unset] [(.int (0 : Int32))])) _
                    have hf : f_first (p1 &&& (1 : Int32)) = (0 : Int32) := by unfold f_first; rw [if_neg hc19_0]
                    rw [hf] at key
                    exact key
                · have O0 : Old Z n0 h0 := ⟨by rw [← hU, hh, hn0], by rw [← hU, hh]; exact ⟨Nat.le_refl _, fun _ _ q => q⟩⟩
                  obtain ⟨Tr1, hr1, kr1, Xr1, er1, Er1, Ar1, str1⟩ := newP X0 hx hZ (hw _ (List.mem_of_getElem? (i := 37) rfl)) e0 (g := (mkF m 286 #[.val (.int p0), .val (.int p1), .val (.int p2), .val (.int p3), .val (.int ((p2 &&& (255 : Int32)).toUInt32.toUInt16.toUInt32.toInt32)), .val (.int ((p3 &&& (255 : Int32)).toUInt32.toUInt16.toUInt32.toInt32)), .val (.int (f_first (p1 &&& (1 : Int32)))), .val (.int ((p0 &&& (2147483647 : Int32)) % (10 : Int32))), .unset, .unset] [(.int (9 : Int32))])) rfl (hb hby at_286) rfl (by decide) (cap := 9) (by decide) (by decide) (by decide) (by decide)
                  obtain ⟨br1, gr1⟩ : ∃ z, z = h0.size := ⟨_, rfl⟩
                  rw [← gr1] at Ar1 str1
                  have Vr1 : Arv Z hr1 br1 kr1 .char (9 : Int32) [(.int (0 : Int32)), (.int (0 : Int32)), (.int (0 : Int32)), (.int (0 : Int32)), (.int (0 : Int32)), (.int (0 : Int32)), (.int (0 : Int32)), (.int (0 : Int32)), (.int (0 : Int32))] (.int (0 : Int32)) := (Arv.new Ar1 (by decide)).pad (pad_rep [] (.int (0 : Int32)) 9)
                  have g_br1 : n0 ≤ br1 := Nat.le_trans Z0 (Nat.le_of_eq gr1.symm)
                  have Zr1 : n0 ≤ hr1.size := Nat.le_trans Z0 Er1.1
                  have Or1 := O0.ext Er1
                  have G0 := hH0.ext Er1
                  obtain ⟨cr2, Ar2, qr2, Sr2, Mr2, Hr2, Ur2⟩ := id Vr1
                  obtain ⟨Tr2, hr2, Xr2, er2, Wr2, str2⟩ := stC Xr1 hx hZ er1 Ar2 (j := (0 : Int32)) (inb_of Sr2 ⟨(by decide : ¬ ((0 : Int32) < (0 : Int32))), (by decide : (0 : Int32) < (9 : Int32))⟩) (g := (mkF m 292 #[.val (.int p0), .val (.int p1), .val (.int p2), .val (.int p3), .val (.int ((p2 &&& (255 : Int32)).toUInt32.toUInt16.toUInt32.toInt32)), .val (.int ((p3 &&& (255 : Int32)).toUInt32.toUInt16.toUInt32.toInt32)), .val (.int (f_first (p1 &&& (1 : Int32)))), .val (.int ((p0 &&& (2147483647 : Int32)) % (10 : Int32))), .unset, .unset] [(.int (108 : Int32)), (.int (0 : Int32)), (.ref br1), (.ref br1)])) rfl rfl (hb hby at_292)
                  have Nr2 := Fr.snoc Xr2 N0 g_br1
                  have Vr2 : Arv Z hr2 br1 kr1 .char (9 : Int32) [(.int (nar .char (108 : Int32))), (.int (0 : Int32)), (.int (0 : Int32)), (.int (0 : Int32)), (.int (0 : Int32)), (.int (0 : Int32)), (.int (0 : Int32)), (.int (0 : Int32)), (.int (0 : Int32))] (.int (0 : Int32)) := Arv.set Ar2 qr2 Sr2 Mr2 Hr2 Ur2 (fits_nar_char _) Wr2 0 rfl (Nat.le_of_ble_eq_true rfl)
                  have Zr2 : n0 ≤ hr2.size := Nat.le_trans Zr1 (Keep.of_wr Wr2).1
                  obtain ⟨Lpr2, Xr2, Nr2⟩ := own_pack Xr2 Nr2
                  have Or2 := Or1.wr Wr2 g_br1
                  have Gr2 := G0.wr Wr2 (Safe.arr hZ.alike Ar2 (by decide))
                  obtain ⟨cr3, Ar3, qr3, Sr3, Mr3, Hr3, Ur3⟩ := id Vr2
                  obtain ⟨Tr3, hr3, Xr3, er3, Wr3, str3⟩ := stC Xr2 hx hZ er2 Ar3 (j := (1 : Int32)) (inb_of Sr3 ⟨(by decide : ¬ ((1 : Int32) < (0 : Int32))), (by decide : (1 : Int32) < (9 : Int32))⟩) (g := (mkF m 297 #[.val (.int p0), .val (.int p1), .val (.int p2), .val (.int p3), .val (.int ((p2 &&& (255 : Int32)).toUInt32.toUInt16.toUInt32.toInt32)), .val (.int ((p3 &&& (255 : Int32)).toUInt32.toUInt16.toUInt32.toInt32)), .val (.int (f_first (p1 &&& (1 : Int32)))), .val (.int ((p0 &&& (2147483647 : Int32)) % (10 : Int32))), .unset, .unset] [(.int (117 : Int32)), (.int (1 : Int32)), (.ref br1), (.ref br1)])) rfl rfl (hb hby at_297)
                  have Nr3 := Fr.snoc Xr3 Nr2 g_br1
                  have Vr3 : Arv Z hr3 br1 kr1 .char (9 : Int32) [(.int (nar .char (108 : Int32))), (.int (nar .char (117 : Int32))), (.int (0 : Int32)), (.int (0 : Int32)), (.int (0 : Int32)), (.int (0 : Int32)), (.int (0 : Int32)), (.int (0 : Int32)), (.int (0 : Int32))] (.int (0 : Int32)) := Arv.set Ar3 qr3 Sr3 Mr3 Hr3 Ur3 (fits_nar_char _) Wr3 1 rfl (Nat.le_of_ble_eq_true rfl)
                  have Zr3 : n0 ≤ hr3.size := Nat.le_trans Zr2 (Keep.of_wr Wr3).1
                  obtain ⟨Lpr3, Xr3, Nr3⟩ := own_pack Xr3 Nr3
                  have Or3 := Or2.wr Wr3 g_br1
                  have Gr3 := Gr2.wr Wr3 (Safe.arr hZ.alike Ar3 (by decide))
                  obtain ⟨cr4, Ar4, qr4, Sr4, Mr4, Hr4, Ur4⟩ := id Vr3
                  obtain ⟨Tr4, hr4, Xr4, er4, Wr4, str4⟩ := stC Xr3 hx hZ er3 Ar4 (j := (2 : Int32)) (inb_of Sr4 ⟨(by decide : ¬ ((2 : Int32) < (0 : Int32))), (by decide : (2 : Int32) < (9 : Int32))⟩) (g := (mkF m 302 #[.val (.int p0), .val (.int p1), .val (.int p2), .val (.int p3), .val (.int ((p2 &&& (255 : Int32)).toUInt32.toUInt16.toUInt32.toInt32)), .val (.int ((p3 &&& (255 : Int32)).toUInt32.toUInt16.toUInt32.toInt32)), .val (.int (f_first (p1 &&& (1 : Int32)))), .val (.int ((p0 &&& (2147483647 : Int32)) % (10 : Int32))), .unset, .unset] [(.int (109 : Int32)), (.int (2 : Int32)), (.ref br1), (.ref br1)])) rfl rfl (hb hby at_302)
                  have Nr4 := Fr.snoc Xr4 Nr3 g_br1
                  have Vr4 : Arv Z hr4 br1 kr1 .char (9 : Int32) [(.int (nar .char (108 : Int32))), (.int (nar .char (117 : Int32))), (.int (nar .char (109 : Int32))), (.int (0 : Int32)), (.int (0 : Int32)), (.int (0 : Int32)), (.int (0 : Int32)), (.int (0 : Int32)), (.int (0 : Int32))] (.int (0 : Int32)) := Arv.set Ar4 qr4 Sr4 Mr4 Hr4 Ur4 (fits_nar_char _) Wr4 2 rfl (Nat.le_of_ble_eq_true rfl)
                  have Zr4 : n0 ≤ hr4.size := Nat.le_trans Zr3 (Keep.of_wr Wr4).1
                  obtain ⟨Lpr4, Xr4, Nr4⟩ := own_pack Xr4 Nr4
                  have Or4 := Or3.wr Wr4 g_br1
                  have Gr4 := Gr3.wr Wr4 (Safe.arr hZ.alike Ar4 (by decide))
                  obtain ⟨cr5, Ar5, qr5, Sr5, Mr5, Hr5, Ur5⟩ := id Vr4
                  obtain ⟨Tr5, hr5, Xr5, er5, Wr5, str5⟩ := stC Xr4 hx hZ er4 Ar5 (j := (3 : Int32)) (inb_of Sr5 ⟨(by decide : ¬ ((3 : Int32) < (0 : Int32))), (by decide : (3 : Int32) < (9 : Int32))⟩) (g := (mkF m 307 #[.val (.int p0), .val (.int p1), .val (.int p2), .val (.int p3), .val (.int ((p2 &&& (255 : Int32)).toUInt32.toUInt16.toUInt32.toInt32)), .val (.int ((p3 &&& (255 : Int32)).toUInt32.toUInt16.toUInt32.toInt32)), .val (.int (f_first (p1 &&& (1 : Int32)))), .val (.int ((p0 &&& (2147483647 : Int32)) % (10 : Int32))), .unset, .unset] [(.int (112 : Int32)), (.int (3 : Int32)), (.ref br1), (.ref br1)])) rfl rfl (hb hby at_307)
                  have Nr5 := Fr.snoc Xr5 Nr4 g_br1
                  have Vr5 : Arv Z hr5 br1 kr1 .char (9 : Int32) [(.int (nar .char (108 : Int32))), (.int (nar .char (117 : Int32))), (.int (nar .char (109 : Int32))), (.int (nar .char (112 : Int32))), (.int (0 : Int32)), (.int (0 : Int32)), (.int (0 : Int32)), (.int (0 : Int32)), (.int (0 : Int32))] (.int (0 : Int32)) := Arv.set Ar5 qr5 Sr5 Mr5 Hr5 Ur5 (fits_nar_char _) Wr5 3 rfl (Nat.le_of_ble_eq_true rfl)
                  have Zr5 : n0 ≤ hr5.size := Nat.le_trans Zr4 (Keep.of_wr Wr5).1
                  obtain ⟨Lpr5, Xr5, Nr5⟩ := own_pack Xr5 Nr5
                  have Or5 := Or4.wr Wr5 g_br1
                  have Gr5 := Gr4.wr Wr5 (Safe.arr hZ.alike Ar5 (by decide))
                  obtain ⟨cr6, Ar6, qr6, Sr6, Mr6, Hr6, Ur6⟩ := id Vr5
                  obtain ⟨Tr6, hr6, Xr6, er6, Wr6, str6⟩ := stC Xr5 hx hZ er5 Ar6 (j := (4 : Int32)) (inb_of Sr6 ⟨(by decide : ¬ ((4 : Int32) < (0 : Int32))), (by decide : (4 : Int32) < (9 : Int32))⟩) (g := (mkF m 312 #[.val (.int p0), .val (.int p1), .val (.int p2), .val (.int p3), .val (.int ((p2 &&& (255 : Int32)).toUInt32.toUInt16.toUInt32.toInt32)), .val (.int ((p3 &&& (255 : Int32)).toUInt32.toUInt16.toUInt32.toInt32)), .val (.int (f_first (p1 &&& (1 : Int32)))), .val (.int ((p0 &&& (2147483647 : Int32)) % (10 : Int32))), .unset, .unset] [(.int (45 : Int32)), (.int (4 : Int32)), (.ref br1), (.ref br1)])) rfl rfl (hb hby at_312)
                  have Nr6 := Fr.snoc Xr6 Nr5 g_br1
                  have Vr6 : Arv Z hr6 br1 kr1 .char (9 : Int32) [(.int (nar .char (108 : Int32))), (.int (nar .char (117 : Int32))), (.int (nar .char (109 : Int32))), (.int (nar .char (112 : Int32))), (.int (nar .char (45 : Int32))), (.int (0 : Int32)), (.int (0 : Int32)), (.int (0 : Int32)), (.int (0 : Int32))] (.int (0 : Int32)) := Arv.set Ar6 qr6 Sr6 Mr6 Hr6 Ur6 (fits_nar_char _) Wr6 4 rfl (Nat.le_of_ble_eq_true rfl)
                  have Zr6 : n0 ≤ hr6.size := Nat.le_trans Zr5 (Keep.of_wr Wr6).1
                  obtain ⟨Lpr6, Xr6, Nr6⟩ := own_pack Xr6 Nr6
                  have Or6 := Or5.wr Wr6 g_br1
                  have Gr6 := Gr5.wr Wr6 (Safe.arr hZ.alike Ar6 (by decide))
                  obtain ⟨cr7, Ar7, qr7, Sr7, Mr7, Hr7, Ur7⟩ := id Vr6
                  obtain ⟨Tr7, hr7, Xr7, er7, Wr7, str7⟩ := stC Xr6 hx hZ er6 Ar7 (j := (5 : Int32)) (inb_of Sr7 ⟨(by decide : ¬ ((5 : Int32) < (0 : Int32))), (by decide : (5 : Int32) < (9 : Int32))⟩) (g := (mkF m 317 #[.val (.int p0), .val (.int p1), .val (.int p2), .val (.int p3), .val (.int ((p2 &&& (255 : Int32)).toUInt32.toUInt16.toUInt32.toInt32)), .val (.int ((p3 &&& (255 : Int32)).toUInt32.toUInt16.toUInt32.toInt32)), .val (.int (f_first (p1 &&& (1 : Int32)))), .val (.int ((p0 &&& (2147483647 : Int32)) % (10 : Int32))), .unset, .unset] [(.int (115 : Int32)), (.int (5 : Int32)), (.ref br1), (.ref br1)])) rfl rfl (hb hby at_317)
                  have Nr7 := Fr.snoc Xr7 Nr6 g_br1
                  have Vr7 : Arv Z hr7 br1 kr1 .char (9 : Int32) [(.int (nar .char (108 : Int32))), (.int (nar .char (117 : Int32))), (.int (nar .char (109 : Int32))), (.int (nar .char (112 : Int32))), (.int (nar .char (45 : Int32))), (.int (nar .char (115 : Int32))), (.int (0 : Int32)), (.int (0 : Int32)), (.int (0 : Int32))] (.int (0 : Int32)) := Arv.set Ar7 qr7 Sr7 Mr7 Hr7 Ur7 (fits_nar_char _) Wr7 5 rfl (Nat.le_of_ble_eq_true rfl)
                  have Zr7 : n0 ≤ hr7.size := Nat.le_trans Zr6 (Keep.of_wr Wr7).1
                  obtain ⟨Lpr7, Xr7, Nr7⟩ := own_pack Xr7 Nr7
                  have Or7 := Or6.wr Wr7 g_br1
                  have Gr7 := Gr6.wr Wr7 (Safe.arr hZ.alike Ar7 (by decide))
                  obtain ⟨cr8, Ar8, qr8, Sr8, Mr8, Hr8, Ur8⟩ := id Vr7
                  obtain ⟨Tr8, hr8, Xr8, er8, Wr8, str8⟩ := stC Xr7 hx hZ er7 Ar8 (j := (6 : Int32)) (inb_of Sr8 ⟨(by decide : ¬ ((6 : Int32) < (0 : Int32))), (by decide : (6 : Int32) < (9 : Int32))⟩) (g := (mkF m 323 #[.val (.int p0), .val (.int p1), .val (.int p2), .val (.int p3), .val (.int ((p2 &&& (255 : Int32)).toUInt32.toUInt16.toUInt32.toInt32)), .val (.int ((p3 &&& (255 : Int32)).toUInt32.toUInt16.toUInt32.toInt32)), .val (.int (f_first (p1 &&& (1 : Int32)))), .val (.int ((p0 &&& (2147483647 : Int32)) % (10 : Int32))), .unset, .unset] [(.int (117 : Int32)), (.int (6 : Int32)), (.ref br1), (.ref br1)])) rfl rfl (hb hby at_323)
                  have Nr8 := Fr.snoc Xr8 Nr7 g_br1
                  have Vr8 : Arv Z hr8 br1 kr1 .char (9 : Int32) [(.int (nar .char (108 : Int32))), (.int (nar .char (117 : Int32))), (.int (nar .char (109 : Int32))), (.int (nar .char (112 : Int32))), (.int (nar .char (45 : Int32))), (.int (nar .char (115 : Int32))), (.int (nar .char (117 : Int32))), (.int (0 : Int32)), (.int (0 : Int32))] (.int (0 : Int32)) := Arv.set Ar8 qr8 Sr8 Mr8 Hr8 Ur8 (fits_nar_char _) Wr8 6 rfl (Nat.le_of_ble_eq_true rfl)
                  have Zr8 : n0 ≤ hr8.size := Nat.le_trans Zr7 (Keep.of_wr Wr8).1
                  obtain ⟨Lpr8, Xr8, Nr8⟩ := own_pack Xr8 Nr8
                  have Or8 := Or7.wr Wr8 g_br1
                  have Gr8 := Gr7.wr Wr8 (Safe.arr hZ.alike Ar8 (by decide))
                  obtain ⟨cr9, Ar9, qr9, Sr9, Mr9, Hr9, Ur9⟩ := id Vr8
                  obtain ⟨Tr9, hr9, Xr9, er9, Wr9, str9⟩ := stC Xr8 hx hZ er8 Ar9 (j := (7 : Int32)) (inb_of Sr9 ⟨(by decide : ¬ ((7 : Int32) < (0 : Int32))), (by decide : (7 : Int32) < (9 : Int32))⟩) (g := (mkF m 329 #[.val (.int p0), .val (.int p1), .val (.int p2), .val (.int p3), .val (.int ((p2 &&& (255 : Int32)).toUInt32.toUInt16.toUInt32.toInt32)), .val (.int ((p3 &&& (255 : Int32)).toUInt32.toUInt16.toUInt32.toInt32)), .val (.int (f_first (p1 &&& (1 : Int32)))), .val (.int ((p0 &&& (2147483647 : Int32)) % (10 : Int32))), .unset, .unset] [(.int (109 : Int32)), (.int (7 : Int32)), (.ref br1), (.ref br1)])) rfl rfl (hb hby at_329)
                  have Nr9 := Fr.snoc Xr9 Nr8 g_br1
                  have Vr9 : Arv Z hr9 br1 kr1 .char (9 : Int32) [(.int (nar .char (108 : Int32))), (.int (nar .char (117 : Int32))), (.int (nar .char (109 : Int32))), (.int (nar .char (112 : Int32))), (.int (nar .char (45 : Int32))), (.int (nar .char (115 : Int32))), (.int (nar .char (117 : Int32))), (.int (nar .char (109 : Int32))), (.int (0 : Int32))] (.int (0 : Int32)) := Arv.set Ar9 qr9 Sr9 Mr9 Hr9 Ur9 (fits_nar_char _) Wr9 7 rfl (Nat.le_of_ble_eq_true rfl)
                  have Zr9 : n0 ≤ hr9.size := Nat.le_trans Zr8 (Keep.of_wr Wr9).1
                  obtain ⟨Lpr9, Xr9, Nr9⟩ := own_pack Xr9 Nr9
                  have Or9 := Or8.wr Wr9 g_br1
                  have Gr9 := Gr8.wr Wr9 (Safe.arr hZ.alike Ar9 (by decide))
                  obtain ⟨cr10, Ar10, qr10, Sr10, Mr10, Hr10, Ur10⟩ := id Vr9
                  obtain ⟨Tr10, hr10, Xr10, er10, Wr10, str10⟩ := stC Xr9 hx hZ er9 Ar10 (j := (8 : Int32)) (inb_of Sr10 ⟨(by decide : ¬ ((8 : Int32) < (0 : Int32))), (by decide : (8 : Int32) < (9 : Int32))⟩) (g := (mkF m 335 #[.val (.int p0), .val (.int p1), .val (.int p2), .val (.int p3), .val (.int ((p2 &&& (255 : Int32)).toUInt32.toUInt16.toUInt32.toInt32)), .val (.int ((p3 &&& (255 : Int32)).toUInt32.toUInt16.toUInt32.toInt32)), .val (.int (f_first (p1 &&& (1 : Int32)))), .val (.int ((p0 &&& (2147483647 : Int32)) % (10 : Int32))), .unset, .unset] [(.int ((p2 &&& (255 : Int32)).toUInt32.toUInt16.toUInt32.toInt32)), (.int (8 : Int32)), (.ref br1), (.ref br1)])) rfl rfl (hb hby at_335)
                  have Nr10 := Fr.snoc Xr10 Nr9 g_br1
                  have Vr10 : Arv Z hr10 br1 kr1 .char (9 : Int32) [(.int (nar .char (108 : Int32))), (.int (nar .char (117 : Int32))), (.int (nar .char (109 : Int32))), (.int (nar .char (112 : Int32))), (.int (nar .char (45 : Int32))), (.int (nar .char (115 : Int32))), (.int (nar .char (117 : Int32))), (.int (nar .char (109 : Int32))), (.int (nar .char ((p2 &&& (255 : Int32)).toUInt32.toUInt16.toUInt32.toInt32)))] (.int (0 : Int32)) := Arv.set Ar10 qr10 Sr10 Mr10 Hr10 Ur10 (fits_nar_char _) Wr10 8 rfl (Nat.le_of_ble_eq_true rfl)
                  have Zr10 : n0 ≤ hr10.size := Nat.le_trans Zr9 (Keep.of_wr Wr10).1
                  obtain ⟨Lpr10, Xr10, Nr10⟩ := own_pack Xr10 Nr10
                  have Or10 := Or9.wr Wr10 g_br1
                  have Gr10 := Gr9.wr Wr10 (Safe.arr hZ.alike Ar10 (by decide))
                  have hp : ∀ c ∈ ([(nar .char (108 : Int32)), (nar .char (117 : Int32)), (nar .char (109 : Int32)), (nar .char (112 : Int32)), (nar .char (45 : Int32)), (nar .char (115 : Int32)), (nar .char (117 : Int32)), (nar .char (109 : Int32)), (nar .char ((p2 &&& (255 : Int32)).toUInt32.toUInt16.toUInt32.toInt32))] : List Int32), ¬ c < 0 ∧ ¬ (255 : Int32) < c := by
                    intro c hc
                    simp only [List.mem_cons, List.not_mem_nil, or_false] at hc
                    rcases hc with rfl | rfl | rfl | rfl | rfl | rfl | rfl | rfl | rfl
                    · exact by decide
                    · exact by decide
                    · exact by decide
                    · exact by decide
                    · exact by decide
                    · exact by decide
                    · exact by decide
                    · exact by decide
                    · exact and255_chars p2
                  obtain ⟨cs, hl, hp, Vcs⟩ : ∃ cs : List Int32, cs.length = 9 ∧ (∀ c ∈ cs, ¬ c < 0 ∧ ¬ (255 : Int32) < c) ∧ Arv Z hr10 br1 kr1 .char (9 : Int32) (cs.map Value.int) (.int (0 : Int32)) := ⟨([(nar .char (108 : Int32)), (nar .char (117 : Int32)), (nar .char (109 : Int32)), (nar .char (112 : Int32)), (nar .char (45 : Int32)), (nar .char (115 : Int32)), (nar .char (117 : Int32)), (nar .char (109 : Int32)), (nar .char ((p2 &&& (255 : Int32)).toUInt32.toUInt16.toUInt32.toInt32))] : List Int32), rfl, hp, Vr10⟩
                  obtain ⟨Tr11, hr11, Xr11, er11, Er11, Ar11, Dr11, -, str11⟩ := newO Xr10 hx hZ hown (hw _ (List.mem_of_getElem? (i := 38) rfl)) (hw _ (List.mem_of_getElem? (i := 3) rfl)) (hw _ (List.mem_of_getElem? (i := 2) rfl)) er10 (g := (mkF m 338 #[.val (.int p0), .val (.int p1), .val (.int p2), .val (.int p3), .val (.int ((p2 &&& (255 : Int32)).toUInt32.toUInt16.toUInt32.toInt32)), .val (.int ((p3 &&& (255 : Int32)).toUInt32.toUInt16.toUInt32.toInt32)), .val (.int (f_first (p1 &&& (1 : Int32)))), .val (.int ((p0 &&& (2147483647 : Int32)) % (10 : Int32))), .unset, .val (.ref br1)] [])) rfl (hb hby at_338) (by decide) (by decide)
                  obtain ⟨br11, gr11⟩ : ∃ z, z = hr10.size := ⟨_, rfl⟩
                  rw [← gr11] at Ar11 Dr11 str11
                  have Fvr11 : Fld Z hr11 br11 "java/lang/String" "value" "[B" .null := Dr11 (Or.inr (hw _ (List.mem_of_getElem? (i := 5) rfl))) (ty := (.array .byte)) (by decide)
                  have Fcr11 : Fld Z hr11 br11 "java/lang/String" "coder" "B" (.int (0 : Int32)) := Dr11 (Or.inr (hw _ (List.mem_of_getElem? (i := 6) rfl))) (ty := .byte) (by decide)
                  have g_br11 : n0 ≤ br11 := Nat.le_trans Zr10 (Nat.le_of_eq gr11.symm)
                  have Zr11 : n0 ≤ hr11.size := Nat.le_trans Zr10 Er11.1
                  have Or11 := Or10.ext Er11
                  have Sfr11 := Safe.ext Er11 Gr10 (Safe.new (Nat.le_of_eq gr11.symm))
                  have Gr11 := Gr10.ext Er11
                  obtain ⟨_, _, ⟨Tr12, Lr12, kr12, nr12⟩, -, Xr12, ⟨Lcr12, hQr12, lr12, yr12, zr12⟩, str12⟩ := Xr11.specialBack hx (y := (⟨"java/lang/String", "<init>", "([C)V"⟩ : MethodName)) rfl hown (mvT hZ (hw _ (List.mem_of_getElem? (i := 39) rfl))) (mvT hZ (hw _ (List.mem_of_getElem? (i := 40) rfl))) (mvT hZ (hw _ (List.mem_of_getElem? (i := 41) rfl))) (by decide) (StrChars.Road.backV (W := 1) hZ hws (kI := 4) (hw _ (List.mem_of_getElem? (i := 3) rfl)) (cs := cs) (bs := (cs.map (fun c => c.toInt8.toInt32))) (n := 9) g_br11 Zr11 Ar11 Fvr11 Fcr11 (Vcs.ext Er11) (S_C.ext (own_oldE hZh Or11)) hC hl rfl (by decide) (by decide) hp rfl (by decide) (by decide)) (g := (mkF m 344 #[.val (.int p0), .val (.int p1), .val (.int p2), .val (.int p3), .val (.int ((p2 &&& (255 : Int32)).toUInt32.toUInt16.toUInt32.toInt32)), .val (.int ((p3 &&& (255 : Int32)).toUInt32.toUInt16.toUInt32.toInt32)), .val (.int (f_first (p1 &&& (1 : Int32)))), .val (.int ((p0 &&& (2147483647 : Int32)) % (10 : Int32))), .unset, .val (.ref br1)] [(.ref br1), (.ref br11), (.ref br11)])) rfl (by rw [hml]; rfl) (Steps.refl _) (a := br11) (argsL := [(.ref br1)]) (rest := [(.ref br11)]) (lenOf pd_law_2 rfl) rfl (by show 2 * 0 + _ ≤ _; exact Nat.le_of_eq rfl) (hb hby at_344) (fun _ _ => ⟨rfl, er11, (by decide : 2 + 1 ≤ _), (by decide : 13 + 9 ≤ _)⟩)
                  dsimp only [Pt.U, Pt.locs, Pt.cells, Pt.slots] at Xr12 lr12 yr12 zr12 str12 hQr12
                  subst lr12 yr12 zr12
                  obtain ⟨rfl, Nr12q, Kr12, EN, CN, tN, kN, u1, u2, u3, VN, KN⟩ := hQr12
                  have Nr12 := Fr.app Nr10 Nr12q
                  obtain ⟨Lpr12, Xr12, Nr12⟩ := own_pack Xr12 Nr12
                  have Or12 := Or11.keep Kr12 (allS g_br11 all0)
                  have Zr12 : n0 ≤ Tr12.heap.size := Nat.le_trans Zr11 Kr12.1
                  have Gr12 := Gr11.keep Kr12 (allS Sfr11 all0)
                  have hlb : (cs.map (fun c => c.toInt8.toInt32)).length = 9 := by rw [List.length_map]; exact hl
                  have KN' : Arv Z Tr12.heap tN kN .byte (Int32.ofNat (cs.map (fun c => c.toInt8.toInt32)).length) ((cs.map (fun c => c.toInt8.toInt32)).map Value.int) (.int (0 : Int32)) := by rw [hlb]; exact KN
                  have OE := own_oldE hZh Or12
                  have S_C' := S_C.ext OE
                  have S_L' := S_L.ext OE
                  have S_I' := S_I.ext OE
                  have W_L' := W_L.ext OE
                  have W_I' := W_I.ext OE
                  obtain ⟨t, hst, hrun, hended, L, NL, hEnd⟩ := own_end (s := s) (vm0 := s.vm) (.val (.int p0)) (.val (.int p1)) (.val (.int p2)) (.val (.int p3)) (.val (.int ((p2 &&& (255 : Int32)).toUInt32.toUInt16.toUInt32.toInt32))) (.val (.int ((p3 &&& (255 : Int32)).toUInt32.toUInt16.toUInt32.toInt32))) (.val (.int (f_first (p1 &&& (1 : Int32))))) (.val (.int ((p0 &&& (2147483647 : Int32)) % (10 : Int32)))) (.val (.ref br1)) (One.val rfl) br11 tN kN (cs.map (fun c => c.toInt8.toInt32)) wL wI iC (Xr12.more (by decide) (by decide)) hx Bd.returns Bd.notSynchronized hZ hw hby hml hown rfl hS0 (Nat.le_trans (Nat.le_of_eq hn0.symm) Zr12) Nr12 Zr12 wStr hEW Gr12 S_L' S_I' W_L' W_I' S_C' hC (by rw [hlb]; decide) EN CN VN KN'
                  refine ⟨t, _, pre0 _ ?_, hrun, hended, _, L, rfl, ⟨rfl, NL⟩, hEnd⟩
                  show Steps p.tables e below (s₁.setTop (mkF m 0 #[.val (.int p0), .val (.int p1), .val (.int p2), .val (.int p3), .unset, .unset, .unset, .unset, .unset, .unset] [])) _
                  refine XS.iloadN X0.here hx rfl (hb hby at_0) rfl ?_
                  show Steps p.tables e below (s₁.setTop (mkF m 1 #[.val (.int p0), .val (.int p1), .val (.int p2), .val (.int p3), .unset, .unset, .unset, .unset, .unset, .unset] [(.int p2)])) _
                  refine XS.sipush X0.here hx rfl (hb hby at_1) ?_
                  show Steps p.tables e below (s₁.setTop (mkF m 4 #[.val (.int p0), .val (.int p1), .val (.int p2), .val (.int p3), .unset, .unset, .unset, .unset, .unset, .unset] [(.int (255 : Int32)), (.int p2)])) _
                  refine XS.iand X0.here hx rfl (hb hby at_4) rfl ?_
                  show Steps p.tables e below (s₁.setTop (mkF m 5 #[.val (.int p0), .val (.int p1), .val (.int p2), .val (.int p3), .unset, .unset, .unset, .unset, .unset, .unset] [(.int (p2 &&& (255 : Int32)))])) _
                  refine XS.i2c X0.here hx rfl (hb hby at_5) rfl ?_
                  show Steps p.tables e below (s₁.setTop (mkF m 6 #[.val (.int p0), .val (.int p1), .val (.int p2), .val (.int p3), .unset, .unset, .unset, .unset, .unset, .unset] [(.int ((p2 &&& (255 : Int32)).toUInt32.toUInt16.toUInt32.toInt32))])) _
                  refine XS.istore X0.here hx rfl (hb hby at_6) rfl (l' := #[.val (.int p0), .val (.int p1), .val (.int p2), .val (.int p3), .val (.int ((p2 &&& (255 : Int32)).toUInt32.toUInt16.toUInt32.toInt32)), .unset, .unset, .unset, .unset, .unset]) rfl ?_
                  show Steps p.tables e below (s₁.setTop (mkF m 8 #[.val (.int p0), .val (.int p1), .val (.int p2), .val (.int p3), .val (.int ((p2 &&& (255 : Int32)).toUInt32.toUInt16.toUInt32.toInt32)), .unset, .unset, .unset, .unset, .unset] [])) _
                  refine XS.iloadN X0.here hx rfl (hb hby at_8) rfl ?_
                  show Steps p.tables e below (s₁.setTop (mkF m 9 #[.val (.int p0), .val (.int p1), .val (.int p2), .val (.int p3), .val (.int ((p2 &&& (255 : Int32)).toUInt32.toUInt16.toUInt32.toInt32)), .unset, .unset, .unset, .unset, .unset] [(.int p3)])) _
                  refine XS.sipush X0.here hx rfl (hb hby at_9) ?_
                  show Steps p.tables e below (s₁.setTop (mkF m 12 #[.val (.int p0), .val (.int p1), .val (.int p2), .val (.int p3), .val (.int ((p2 &&& (255 : Int32)).toUInt32.toUInt16.toUInt32.toInt32)), .unset, .unset, .unset, .unset, .unset] [(.int (255 : Int32)), (.int p3)])) _
                  refine XS.iand X0.here hx rfl (hb hby at_12) rfl ?_
                  show Steps p.tables e below (s₁.setTop (mkF m 13 #[.val (.int p0), .val (.int p1), .val (.int p2), .val (.int p3), .val (.int ((p2 &&& (255 : Int32)).toUInt32.toUInt16.toUInt32.toInt32)), .unset, .unset, .unset, .unset, .unset] [(.int (p3 &&& (255 : Int32)))])) _
                  refine XS.i2c X0.here hx rfl (hb hby at_13) rfl ?_
                  show Steps p.tables e below (s₁.setTop (mkF m 14 #[.val (.int p0), .val (.int p1), .val (.int p2), .val (.int p3), .val (.int ((p2 &&& (255 : Int32)).toUInt32.toUInt16.toUInt32.toInt32)), .unset, .unset, .unset, .unset, .unset] [(.int ((p3 &&& (255 : Int32)).toUInt32.toUInt16.toUInt32.toInt32))])) _
                  refine XS.istore X0.here hx rfl (hb hby at_14) rfl (l' := #[.val (.int p0), .val (.int p1), .val (.int p2), .val (.int p3), .val (.int ((p2 &&& (255 : Int32)).toUInt32.toUInt16.toUInt32.toInt32)), .val (.int ((p3 &&& (255 : Int32)).toUInt32.toUInt16.toUInt32.toInt32)), .unset, .unset, .unset, .unset]) rfl ?_
                  show Steps p.tables e below (s₁.setTop (mkF m 16 #[.val (.int p0), .val (.int p1), .val (.int p2), .val (.int p3), .val (.int ((p2 &&& (255 : Int32)).toUInt32.toUInt16.toUInt32.toInt32)), .val (.int ((p3 &&& (255 : Int32)).toUInt32.toUInt16.toUInt32.toInt32)), .unset, .unset, .unset, .unset] [])) _
                  refine XS.iloadN X0.here hx rfl (hb hby at_16) rfl ?_
                  show Steps p.tables e below (s₁.setTop (mkF m 17 #[.val (.int p0), .val (.int p1), .val (.int p2), .val (.int p3), .val (.int ((p2 &&& (255 : Int32)).toUInt32.toUInt16.toUInt32.toInt32)), .val (.int ((p3 &&& (255 : Int32)).toUInt32.toUInt16.toUInt32.toInt32)), .unset, .unset, .unset, .unset] [(.int p1)])) _
                  refine XS.iconst X0.here hx rfl (hb hby at_17) ?_
                  show Steps p.tables e below (s₁.setTop (mkF m 18 #[.val (.int p0), .val (.int p1), .val (.int p2), .val (.int p3), .val (.int ((p2 &&& (255 : Int32)).toUInt32.toUInt16.toUInt32.toInt32)), .val (.int ((p3 &&& (255 : Int32)).toUInt32.toUInt16.toUInt32.toInt32)), .unset, .unset, .unset, .unset] [(.int (1 : Int32)), (.int p1)])) _
                  refine XS.iand X0.here hx rfl (hb hby at_18) rfl ?_
                  have key : Steps p.tables e below (s₁.setTop (mkF m 27 #[.val (.int p0), .val (.int p1), .val (.int p2), .val (.int p3), .val (.int ((p2 &&& (255 : Int32)).toUInt32.toUInt16.toUInt32.toInt32)), .val (.int ((p3 &&& (255 : Int32)).toUInt32.toUInt16.toUInt32.toInt32)), .unset, .unset, .unset, .unset] [(.int (f_first (p1 &&& (1 : Int32))))])) t := by
                    show Steps p.tables e below (s₁.setTop (mkF m 27 #[.val (.int p0), .val (.int p1), .val (.int p2), .val (.int p3), .val (.int ((p2 &&& (255 : Int32)).toUInt32.toUInt16.toUInt32.toInt32)), .val (.int ((p3 &&& (255 : Int32)).toUInt32.toUInt16.toUInt32.toInt32)), .unset, .unset, .unset, .unset] [(.int (f_first (p1 &&& (1 : Int32))))])) _
                    refine XS.istore X0.here hx rfl (hb hby at_27) rfl (l' := #[.val (.int p0), .val (.int p1), .val (.int p2), .val (.int p3), .val (.int ((p2 &&& (255 : Int32)).toUInt32.toUInt16.toUInt32.toInt32)), .val (.int ((p3 &&& (255 : Int32)).toUInt32.toUInt16.toUInt32.toInt32)), .val (.int (f_first (p1 &&& (1 : Int32)))), .unset, .unset, .unset]) rfl ?_
                    show Steps p.tables e below (s₁.setTop (mkF m 29 #[.val (.int p0), .val (.int p1), .val (.int p2), .val (.int p3), .val (.int ((p2 &&& (255 : Int32)).toUInt32.toUInt16.toUInt32.toInt32)), .val (.int ((p3 &&& (255 : Int32)).toUInt32.toUInt16.toUInt32.toInt32)), .val (.int (f_first (p1 &&& (1 : Int32)))), .unset, .unset, .unset] [])) _
                    refine XS.iloadN X0.here hx rfl (hb hby at_29) rfl ?_
                    show Steps p.tables e below (s₁.setTop (mkF m 30 #[.val (.int p0), .val (.int p1), .val (.int p2), .val (.int p3), .val (.int ((p2 &&& (255 : Int32)).toUInt32.toUInt16.toUInt32.toInt32)), .val (.int ((p3 &&& (255 : Int32)).toUInt32.toUInt16.toUInt32.toInt32)), .val (.int (f_first (p1 &&& (1 : Int32)))), .unset, .unset, .unset] [(.int p0)])) _
                    refine X0.ldcInt hx hown (mvT hZ (hw _ (List.mem_of_getElem? (i := 0) rfl))) (g := (mkF m 30 #[.val (.int p0), .val (.int p1), .val (.int p2), .val (.int p3), .val (.int ((p2 &&& (255 : Int32)).toUInt32.toUInt16.toUInt32.toInt32)), .val (.int ((p3 &&& (255 : Int32)).toUInt32.toUInt16.toUInt32.toInt32)), .val (.int (f_first (p1 &&& (1 : Int32)))), .unset, .unset, .unset] [(.int p0)])) rfl (hb hby at_30) _ ?_
                    show Steps p.tables e below (s₁.setTop (mkF m 32 #[.val (.int p0), .val (.int p1), .val (.int p2), .val (.int p3), .val (.int ((p2 &&& (255 : Int32)).toUInt32.toUInt16.toUInt32.toInt32)), .val (.int ((p3 &&& (255 : Int32)).toUInt32.toUInt16.toUInt32.toInt32)), .val (.int (f_first (p1 &&& (1 : Int32)))), .unset, .unset, .unset] [(.int (2147483647 : Int32)), (.int p0)])) _
                    refine XS.iand X0.here hx rfl (hb hby at_32) rfl ?_
                    show Steps p.tables e below (s₁.setTop (mkF m 33 #[.val (.int p0), .val (.int p1), .val (.int p2), .val (.int p3), .val (.int ((p2 &&& (255 : Int32)).toUInt32.toUInt16.toUInt32.toInt32)), .val (.int ((p3 &&& (255 : Int32)).toUInt32.toUInt16.toUInt32.toInt32)), .val (.int (f_first (p1 &&& (1 : Int32)))), .unset, .unset, .unset] [(.int (p0 &&& (2147483647 : Int32)))])) _
                    refine XS.bipush X0.here hx rfl (hb hby at_33) ?_
                    show Steps p.tables e below (s₁.setTop (mkF m 35 #[.val (.int p0), .val (.int p1), .val (.int p2), .val (.int p3), .val (.int ((p2 &&& (255 : Int32)).toUInt32.toUInt16.toUInt32.toInt32)), .val (.int ((p3 &&& (255 : Int32)).toUInt32.toUInt16.toUInt32.toInt32)), .val (.int (f_first (p1 &&& (1 : Int32)))), .unset, .unset, .unset] [(.int (10 : Int32)), (.int (p0 &&& (2147483647 : Int32)))])) _
                    refine Jvm.RoadKit.iremM X0 hx rfl (hb hby at_35) rfl (by decide) ?_
                    show Steps p.tables e below (s₁.setTop (mkF m 36 #[.val (.int p0), .val (.int p1), .val (.int p2), .val (.int p3), .val (.int ((p2 &&& (255 : Int32)).toUInt32.toUInt16.toUInt32.toInt32)), .val (.int ((p3 &&& (255 : Int32)).toUInt32.toUInt16.toUInt32.toInt32)), .val (.int (f_first (p1 &&& (1 : Int32)))), .unset, .unset, .unset] [(.int ((p0 &&& (2147483647 : Int32)) % (10 : Int32)))])) _
                    refine XS.istore X0.here hx rfl (hb hby at_36) rfl (l' := #[.val (.int p0), .val (.int p1), .val (.int p2), .val (.int p3), .val (.int ((p2 &&& (255 : Int32)).toUInt32.toUInt16.toUInt32.toInt32)), .val (.int ((p3 &&& (255 : Int32)).toUInt32.toUInt16.toUInt32.toInt32)), .val (.int (f_first (p1 &&& (1 : Int32)))), .val (.int ((p0 &&& (2147483647 : Int32)) % (10 : Int32))), .unset, .unset]) rfl ?_
                    show Steps p.tables e below (s₁.setTop (mkF m 38 #[.val (.int p0), .val (.int p1), .val (.int p2), .val (.int p3), .val (.int ((p2 &&& (255 : Int32)).toUInt32.toUInt16.toUInt32.toInt32)), .val (.int ((p3 &&& (255 : Int32)).toUInt32.toUInt16.toUInt32.toInt32)), .val (.int (f_first (p1 &&& (1 : Int32)))), .val (.int ((p0 &&& (2147483647 : Int32)) % (10 : Int32))), .unset, .unset] [])) _
                    refine XS.iload X0.here hx rfl (hb hby at_38) rfl ?_
                    show Steps p.tables e below (s₁.setTop (mkF m 40 #[.val (.int p0), .val (.int p1), .val (.int p2), .val (.int p3), .val (.int ((p2 &&& (255 : Int32)).toUInt32.toUInt16.toUInt32.toInt32)), .val (.int ((p3 &&& (255 : Int32)).toUInt32.toUInt16.toUInt32.toInt32)), .val (.int (f_first (p1 &&& (1 : Int32)))), .val (.int ((p0 &&& (2147483647 : Int32)) % (10 : Int32))), .unset, .unset] [(.int ((p0 &&& (2147483647 : Int32)) % (10 : Int32)))])) _
                    refine XS.ifYes X0.here hx rfl (pc0 := 40) (pc' := 50) rfl (hb hby at_40) rfl ((if0 _ _).trans (feq hcase0).2) (by decide) (by decide) ?_
                    show Steps p.tables e below (s₁.setTop (mkF m 50 #[.val (.int p0), .val (.int p1), .val (.int p2), .val (.int p3), .val (.int ((p2 &&& (255 : Int32)).toUInt32.toUInt16.toUInt32.toInt32)), .val (.int ((p3 &&& (255 : Int32)).toUInt32.toUInt16.toUInt32.toInt32)), .val (.int (f_first (p1 &&& (1 : Int32)))), .val (.int ((p0 &&& (2147483647 : Int32)) % (10 : Int32))), .unset, .unset] [])) _
                    refine XS.iload X0.here hx rfl (hb hby at_50) rfl ?_
                    show Steps p.tables e below (s₁.setTop (mkF m 52 #[.val (.int p0), .val (.int p1), .val (.int p2), .val (.int p3), .val (.int ((p2 &&& (255 : Int32)).toUInt32.toUInt16.toUInt32.toInt32)), .val (.int ((p3 &&& (255 : Int32)).toUInt32.toUInt16.toUInt32.toInt32)), .val (.int (f_first (p1 &&& (1 : Int32)))), .val (.int ((p0 &&& (2147483647 : Int32)) % (10 : Int32))), .unset, .unset] [(.int ((p0 &&& (2147483647 : Int32)) % (10 : Int32)))])) _
                    refine XS.iconst X0.here hx rfl (hb hby at_52) ?_
                    show Steps p.tables e below (s₁.setTop (mkF m 53 #[.val (.int p0), .val (.int p1), .val (.int p2), .val (.int p3), .val (.int ((p2 &&& (255 : Int32)).toUInt32.toUInt16.toUInt32.toInt32)), .val (.int ((p3 &&& (255 : Int32)).toUInt32.toUInt16.toUInt32.toInt32)), .val (.int (f_first (p1 &&& (1 : Int32)))), .val (.int ((p0 &&& (2147483647 : Int32)) % (10 : Int32))), .unset, .unset] [(.int (1 : Int32)), (.int ((p0 &&& (2147483647 : Int32)) % (10 : Int32)))])) _
                    refine XS.icmpYes X0.here hx rfl (pc0 := 53) (pc' := 63) rfl (hb hby at_53) rfl (feq hcase1).2 (by decide) (by decide) ?_
                    show Steps p.tables e below (s₁.setTop (mkF m 63 #[.val (.int p0), .val (.int p1), .val (.int p2), .val (.int p3), .val (.int ((p2 &&& (255 : Int32)).toUInt32.toUInt16.toUInt32.toInt32)), .val (.int ((p3 &&& (255 : Int32)).toUInt32.toUInt16.toUInt32.toInt32)), .val (.int (f_first (p1 &&& (1 : Int32)))), .val (.int ((p0 &&& (2147483647 : Int32)) % (10 : Int32))), .unset, .unset] [])) _
                    refine XS.iload X0.here hx rfl (hb hby at_63) rfl ?_
                    show Steps p.tables e below (s₁.setTop (mkF m 65 #[.val (.int p0), .val (.int p1), .val (.int p2), .val (.int p3), .val (.int ((p2 &&& (255 : Int32)).toUInt32.toUInt16.toUInt32.toInt32)), .val (.int ((p3 &&& (255 : Int32)).toUInt32.toUInt16.toUInt32.toInt32)), .val (.int (f_first (p1 &&& (1 : Int32)))), .val (.int ((p0 &&& (2147483647 : Int32)) % (10 : Int32))), .unset, .unset] [(.int ((p0 &&& (2147483647 : Int32)) % (10 : Int32)))])) _
                    refine XS.iconst X0.here hx rfl (hb hby at_65) ?_
                    show Steps p.tables e below (s₁.setTop (mkF m 66 #[.val (.int p0), .val (.int p1), .val (.int p2), .val (.int p3), .val (.int ((p2 &&& (255 : Int32)).toUInt32.toUInt16.toUInt32.toInt32)), .val (.int ((p3 &&& (255 : Int32)).toUInt32.toUInt16.toUInt32.toInt32)), .val (.int (f_first (p1 &&& (1 : Int32)))), .val (.int ((p0 &&& (2147483647 : Int32)) % (10 : Int32))), .unset, .unset] [(.int (2 : Int32)), (.int ((p0 &&& (2147483647 : Int32)) % (10 : Int32)))])) _
                    refine XS.icmpYes X0.here hx rfl (pc0 := 66) (pc' := 76) rfl (hb hby at_66) rfl (feq hcase2).2 (by decide) (by decide) ?_
                    show Steps p.tables e below (s₁.setTop (mkF m 76 #[.val (.int p0), .val (.int p1), .val (.int p2), .val (.int p3), .val (.int ((p2 &&& (255 : Int32)).toUInt32.toUInt16.toUInt32.toInt32)), .val (.int ((p3 &&& (255 : Int32)).toUInt32.toUInt16.toUInt32.toInt32)), .val (.int (f_first (p1 &&& (1 : Int32)))), .val (.int ((p0 &&& (2147483647 : Int32)) % (10 : Int32))), .unset, .unset] [])) _
                    refine XS.iload X0.here hx rfl (hb hby at_76) rfl ?_
                    show Steps p.tables e below (s₁.setTop (mkF m 78 #[.val (.int p0), .val (.int p1), .val (.int p2), .val (.int p3), .val (.int ((p2 &&& (255 : Int32)).toUInt32.toUInt16.toUInt32.toInt32)), .val (.int ((p3 &&& (255 : Int32)).toUInt32.toUInt16.toUInt32.toInt32)), .val (.int (f_first (p1 &&& (1 : Int32)))), .val (.int ((p0 &&& (2147483647 : Int32)) % (10 : Int32))), .unset, .unset] [(.int ((p0 &&& (2147483647 : Int32)) % (10 : Int32)))])) _
                    refine XS.iconst X0.here hx rfl (hb hby at_78) ?_
                    show Steps p.tables e below (s₁.setTop (mkF m 79 #[.val (.int p0), .val (.int p1), .val (.int p2), .val (.int p3), .val (.int ((p2 &&& (255 : Int32)).toUInt32.toUInt16.toUInt32.toInt32)), .val (.int ((p3 &&& (255 : Int32)).toUInt32.toUInt16.toUInt32.toInt32)), .val (.int (f_first (p1 &&& (1 : Int32)))), .val (.int ((p0 &&& (2147483647 : Int32)) % (10 : Int32))), .unset, .unset] [(.int (3 : Int32)), (.int ((p0 &&& (2147483647 : Int32)) % (10 : Int32)))])) _
                    refine XS.icmpYes X0.here hx rfl (pc0 := 79) (pc' := 88) rfl (hb hby at_79) rfl (feq hcase3).2 (by decide) (by decide) ?_
                    show Steps p.tables e below (s₁.setTop (mkF m 88 #[.val (.int p0), .val (.int p1), .val (.int p2), .val (.int p3), .val (.int ((p2 &&& (255 : Int32)).toUInt32.toUInt16.toUInt32.toInt32)), .val (.int ((p3 &&& (255 : Int32)).toUInt32.toUInt16.toUInt32.toInt32)), .val (.int (f_first (p1 &&& (1 : Int32)))), .val (.int ((p0 &&& (2147483647 : Int32)) % (10 : Int32))), .unset, .unset] [])) _
                    refine XS.iload X0.here hx rfl (hb hby at_88) rfl ?_
                    show Steps p.tables e below (s₁.setTop (mkF m 90 #[.val (.int p0), .val (.int p1), .val (.int p2), .val (.int p3), .val (.int ((p2 &&& (255 : Int32)).toUInt32.toUInt16.toUInt32.toInt32)), .val (.int ((p3 &&& (255 : Int32)).toUInt32.toUInt16.toUInt32.toInt32)), .val (.int (f_first (p1 &&& (1 : Int32)))), .val (.int ((p0 &&& (2147483647 : Int32)) % (10 : Int32))), .unset, .unset] [(.int ((p0 &&& (2147483647 : Int32)) % (10 : Int32)))])) _
                    refine XS.iconst X0.here hx rfl (hb hby at_90) ?_
                    show Steps p.tables e below (s₁.setTop (mkF m 91 #[.val (.int p0), .val (.int p1), .val (.int p2), .val (.int p3), .val (.int ((p2 &&& (255 : Int32)).toUInt32.toUInt16.toUInt32.toInt32)), .val (.int ((p3 &&& (255 : Int32)).toUInt32.toUInt16.toUInt32.toInt32)), .val (.int (f_first (p1 &&& (1 : Int32)))), .val (.int ((p0 &&& (2147483647 : Int32)) % (10 : Int32))), .unset, .unset] [(.int (4 : Int32)), (.int ((p0 &&& (2147483647 : Int32)) % (10 : Int32)))])) _
                    refine XS.icmpYes X0.here hx rfl (pc0 := 91) (pc' := 168) rfl (hb hby at_91) rfl (feq hcase4).2 (by decide) (by decide) ?_
                    show Steps p.tables e below (s₁.setTop (mkF m 168 #[.val (.int p0), .val (.int p1), .val (.int p2), .val (.int p3), .val (.int ((p2 &&& (255 : Int32)).toUInt32.toUInt16.toUInt32.toInt32)), .val (.int ((p3 &&& (255 : Int32)).toUInt32.toUInt16.toUInt32.toInt32)), .val (.int (f_first (p1 &&& (1 : Int32)))), .val (.int ((p0 &&& (2147483647 : Int32)) % (10 : Int32))), .unset, .unset] [])) _
                    refine XS.iload X0.here hx rfl (hb hby at_168) rfl ?_
                    show Steps p.tables e below (s₁.setTop (mkF m 170 #[.val (.int p0), .val (.int p1), .val (.int p2), .val (.int p3), .val (.int ((p2 &&& (255 : Int32)).toUInt32.toUInt16.toUInt32.toInt32)), .val (.int ((p3 &&& (255 : Int32)).toUInt32.toUInt16.toUInt32.toInt32)), .val (.int (f_first (p1 &&& (1 : Int32)))), .val (.int ((p0 &&& (2147483647 : Int32)) % (10 : Int32))), .unset, .unset] [(.int ((p0 &&& (2147483647 : Int32)) % (10 : Int32)))])) _
                    refine XS.iconst X0.here hx rfl (hb hby at_170) ?_
                    show Steps p.tables e below (s₁.setTop (mkF m 171 #[.val (.int p0), .val (.int p1), .val (.int p2), .val (.int p3), .val (.int ((p2 &&& (255 : Int32)).toUInt32.toUInt16.toUInt32.toInt32)), .val (.int ((p3 &&& (255 : Int32)).toUInt32.toUInt16.toUInt32.toInt32)), .val (.int (f_first (p1 &&& (1 : Int32)))), .val (.int ((p0 &&& (2147483647 : Int32)) % (10 : Int32))), .unset, .unset] [(.int (5 : Int32)), (.int ((p0 &&& (2147483647 : Int32)) % (10 : Int32)))])) _
                    refine XS.icmpYes X0.here hx rfl (pc0 := 171) (pc' := 272) rfl (hb hby at_171) rfl (feq hcase5).2 (by decide) (by decide) ?_
                    show Steps p.tables e below (s₁.setTop (mkF m 272 #[.val (.int p0), .val (.int p1), .val (.int p2), .val (.int p3), .val (.int ((p2 &&& (255 : Int32)).toUInt32.toUInt16.toUInt32.toInt32)), .val (.int ((p3 &&& (255 : Int32)).toUInt32.toUInt16.toUInt32.toInt32)), .val (.int (f_first (p1 &&& (1 : Int32)))), .val (.int ((p0 &&& (2147483647 : Int32)) % (10 : Int32))), .unset, .unset] [])) _
                    refine XS.iload X0.here hx rfl (hb hby at_272) rfl ?_
                    show Steps p.tables e below (s₁.setTop (mkF m 274 #[.val (.int p0), .val (.int p1), .val (.int p2), .val (.int p3), .val (.int ((p2 &&& (255 : Int32)).toUInt32.toUInt16.toUInt32.toInt32)), .val (.int ((p3 &&& (255 : Int32)).toUInt32.toUInt16.toUInt32.toInt32)), .val (.int (f_first (p1 &&& (1 : Int32)))), .val (.int ((p0 &&& (2147483647 : Int32)) % (10 : Int32))), .unset, .unset] [(.int ((p0 &&& (2147483647 : Int32)) % (10 : Int32)))])) _
                    refine XS.bipush X0.here hx rfl (hb hby at_274) ?_
                    show Steps p.tables e below (s₁.setTop (mkF m 276 #[.val (.int p0), .val (.int p1), .val (.int p2), .val (.int p3), .val (.int ((p2 &&& (255 : Int32)).toUInt32.toUInt16.toUInt32.toInt32)), .val (.int ((p3 &&& (255 : Int32)).toUInt32.toUInt16.toUInt32.toInt32)), .val (.int (f_first (p1 &&& (1 : Int32)))), .val (.int ((p0 &&& (2147483647 : Int32)) % (10 : Int32))), .unset, .unset] [(.int (6 : Int32)), (.int ((p0 &&& (2147483647 : Int32)) % (10 : Int32)))])) _
                    refine XS.icmpNo X0.here hx rfl (hb hby at_276) rfl (teq hcase6).2 ?_
                    show Steps p.tables e below (s₁.setTop (mkF m 279 #[.val (.int p0), .val (.int p1), .val (.int p2), .val (.int p3), .val (.int ((p2 &&& (255 : Int32)).toUInt32.toUInt16.toUInt32.toInt32)), .val (.int ((p3 &&& (255 : Int32)).toUInt32.toUInt16.toUInt32.toInt32)), .val (.int (f_first (p1 &&& (1 : Int32)))), .val (.int ((p0 &&& (2147483647 : Int32)) % (10 : Int32))), .unset, .unset] [])) _
                    refine XS.iload X0.here hx rfl (hb hby at_279) rfl ?_
                    show Steps p.tables e below (s₁.setTop (mkF m 281 #[.val (.int p0), .val (.int p1), .val (.int p2), .val (.int p3), .val (.int ((p2 &&& (255 : Int32)).toUInt32.toUInt16.toUInt32.toInt32)), .val (.int ((p3 &&& (255 : Int32)).toUInt32.toUInt16.toUInt32.toInt32)), .val (.int (f_first (p1 &&& (1 : Int32)))), .val (.int ((p0 &&& (2147483647 : Int32)) % (10 : Int32))), .unset, .unset] [(.int (f_first (p1 &&& (1 : Int32))))])) _
                    refine XS.ifNo X0.here hx rfl (hb hby at_281) rfl ((if0 _ _).trans (feq hff).1) ?_
                    show Steps p.tables e below (s₁.setTop (mkF m 284 #[.val (.int p0), .val (.int p1), .val (.int p2), .val (.int p3), .val (.int ((p2 &&& (255 : Int32)).toUInt32.toUInt16.toUInt32.toInt32)), .val (.int ((p3 &&& (255 : Int32)).toUInt32.toUInt16.toUInt32.toInt32)), .val (.int (f_first (p1 &&& (1 : Int32)))), .val (.int ((p0 &&& (2147483647 : Int32)) % (10 : Int32))), .unset, .unset] [])) _
                    refine XS.bipush X0.here hx rfl (hb hby at_284) ?_
                    show Steps p.tables e below (s₁.setTop (mkF m 286 #[.val (.int p0), .val (.int p1), .val (.int p2), .val (.int p3), .val (.int ((p2 &&& (255 : Int32)).toUInt32.toUInt16.toUInt32.toInt32)), .val (.int ((p3 &&& (255 : Int32)).toUInt32.toUInt16.toUInt32.toInt32)), .val (.int (f_first (p1 &&& (1 : Int32)))), .val (.int ((p0 &&& (2147483647 : Int32)) % (10 : Int32))), .unset, .unset] [(.int (9 : Int32))])) _
                    refine str1 _ ?_
                    show Steps p.tables e below (Tr1.setTop (mkF m 288 #[.val (.int p0), .val (.int p1), .val (.int p2), .val (.int p3), .val (.int ((p2 &&& (255 : Int32)).toUInt32.toUInt16.toUInt32.toInt32)), .val (.int ((p3 &&& (255 : Int32)).toUInt32.toUInt16.toUInt32.toInt32)), .val (.int (f_first (p1 &&& (1 : Int32)))), .val (.int ((p0 &&& (2147483647 : Int32)) % (10 : Int32))), .unset, .unset] [(.ref br1)])) _
                    refine XS.dup Xr1.here hx rfl (hb hby at_288) rfl rfl ?_
                    show Steps p.tables e below (Tr1.setTop (mkF m 289 #[.val (.int p0), .val (.int p1), .val (.int p2), .val (.int p3), .val (.int ((p2 &&& (255 : Int32)).toUInt32.toUInt16.toUInt32.toInt32)), .val (.int ((p3 &&& (255 : Int32)).toUInt32.toUInt16.toUInt32.toInt32)), .val (.int (f_first (p1 &&& (1 : Int32)))), .val (.int ((p0 &&& (2147483647 : Int32)) % (10 : Int32))), .unset, .unset] [(.ref br1), (.ref br1)])) _
                    refine XS.iconst Xr1.here hx rfl (hb hby at_289) ?_
                    show Steps p.tables e below (Tr1.setTop (mkF m 290 #[.val (.int p0), .val (.int p1), .val (.int p2), .val (.int p3), .val (.int ((p2 &&& (255 : Int32)).toUInt32.toUInt16.toUInt32.toInt32)), .val (.int ((p3 &&& (255 : Int32)).toUInt32.toUInt16.toUInt32.toInt32)), .val (.int (f_first (p1 &&& (1 : Int32)))), .val (.int ((p0 &&& (2147483647 : Int32)) % (10 : Int32))), .unset, .unset] [(.int (0 : Int32)), (.ref br1), (.ref br1)])) _
                    refine XS.bipush Xr1.here hx rfl (hb hby at_290) ?_
                    show Steps p.tables e below (Tr1.setTop (mkF m 292 #[.val (.int p0), .val (.int p1), .val (.int p2), .val (.int p3), .val (.int ((p2 &&& (255 : Int32)).toUInt32.toUInt16.toUInt32.toInt32)), .val (.int ((p3 &&& (255 : Int32)).toUInt32.toUInt16.toUInt32.toInt32)), .val (.int (f_first (p1 &&& (1 : Int32)))), .val (.int ((p0 &&& (2147483647 : Int32)) % (10 : Int32))), .unset, .unset] [(.int (108 : Int32)), (.int (0 : Int32)), (.ref br1), (.ref br1)])) _
                    refine str2 _ ?_
                    show Steps p.tables e below (Tr2.setTop (mkF m 293 #[.val (.int p0), .val (.int p1), .val (.int p2), .val (.int p3), .val (.int ((p2 &&& (255 : Int32)).toUInt32.toUInt16.toUInt32.toInt32)), .val (.int ((p3 &&& (255 : Int32)).toUInt32.toUInt16.toUInt32.toInt32)), .val (.int (f_first (p1 &&& (1 : Int32)))), .val (.int ((p0 &&& (2147483647 : Int32)) % (10 : Int32))), .unset, .unset] [(.ref br1)])) _
                    refine XS.dup Xr2.here hx rfl (hb hby at_293) rfl rfl ?_
                    show Steps p.tables e below (Tr2.setTop (mkF m 294 #[.val (.int p0), .val (.int p1), .val (.int p2), .val (.int p3), .val (.int ((p2 &&& (255 : Int32)).toUInt32.toUInt16.toUInt32.toInt32)), .val (.int ((p3 &&& (255 : Int32)).toUInt32.toUInt16.toUInt32.toInt32)), .val (.int (f_first (p1 &&& (1 : Int32)))), .val (.int ((p0 &&& (2147483647 : Int32)) % (10 : Int32))), .unset, .unset] [(.ref br1), (.ref br1)])) _
                    refine XS.iconst Xr2.here hx rfl (hb hby at_294) ?_
                    show Steps p.tables e below (Tr2.setTop (mkF m 295 #[.val (.int p0), .val (.int p1), .val (.int p2), .val (.int p3), .val (.int ((p2 &&& (255 : Int32)).toUInt32.toUInt16.toUInt32.toInt32)), .val (.int ((p3 &&& (255 : Int32)).toUInt32.toUInt16.toUInt32.toInt32)), .val (.int (f_first (p1 &&& (1 : Int32)))), .val (.int ((p0 &&& (2147483647 : Int32)) % (10 : Int32))), .unset, .unset] [(.int (1 : Int32)), (.ref br1), (.ref br1)])) _
                    refine XS.bipush Xr2.here hx rfl (hb hby at_295) ?_
                    show Steps p.tables e below (Tr2.setTop (mkF m 297 #[.val (.int p0), .val (.int p1), .val (.int p2), .val (.int p3), .val (.int ((p2 &&& (255 : Int32)).toUInt32.toUInt16.toUInt32.toInt32)), .val (.int ((p3 &&& (255 : Int32)).toUInt32.toUInt16.toUInt32.toInt32)), .val (.int (f_first (p1 &&& (1 : Int32)))), .val (.int ((p0 &&& (2147483647 : Int32)) % (10 : Int32))), .unset, .unset] [(.int (117 : Int32)), (.int (1 : Int32)), (.ref br1), (.ref br1)])) _
                    refine str3 _ ?_
                    show Steps p.tables e below (Tr3.setTop (mkF m 298 #[.val (.int p0), .val (.int p1), .val (.int p2), .val (.int p3), .val (.int ((p2 &&& (255 : Int32)).toUInt32.toUInt16.toUInt32.toInt32)), .val (.int ((p3 &&& (255 : Int32)).toUInt32.toUInt16.toUInt32.toInt32)), .val (.int (f_first (p1 &&& (1 : Int32)))), .val (.int ((p0 &&& (2147483647 : Int32)) % (10 : Int32))), .unset, .unset] [(.ref br1)])) _
                    refine XS.dup Xr3.here hx rfl (hb hby at_298) rfl rfl ?_
                    show Steps p.tables e below (Tr3.setTop (mkF m 299 #[.val (.int p0), .val (.int p1), .val (.int p2), .val (.int p3), .val (.int ((p2 &&& (255 : Int32)).toUInt32.toUInt16.toUInt32.toInt32)), .val (.int ((p3 &&& (255 : Int32)).toUInt32.toUInt16.toUInt32.toInt32)), .val (.int (f_first (p1 &&& (1 : Int32)))), .val (.int ((p0 &&& (2147483647 : Int32)) % (10 : Int32))), .unset, .unset] [(.ref br1), (.ref br1)])) _
                    refine XS.iconst Xr3.here hx rfl (hb hby at_299) ?_
                    show Steps p.tables e below (Tr3.setTop (mkF m 300 #[.val (.int p0), .val (.int p1), .val (.int p2), .val (.int p3), .val (.int ((p2 &&& (255 : Int32)).toUInt32.toUInt16.toUInt32.toInt32)), .val (.int ((p3 &&& (255 : Int32)).toUInt32.toUInt16.toUInt32.toInt32)), .val (.int (f_first (p1 &&& (1 : Int32)))), .val (.int ((p0 &&& (2147483647 : Int32)) % (10 : Int32))), .unset, .unset] [(.int (2 : Int32)), (.ref br1), (.ref br1)])) _
                    refine XS.bipush Xr3.here hx rfl (hb hby at_300) ?_
                    show Steps p.tables e below (Tr3.setTop (mkF m 302 #[.val (.int p0), .val (.int p1), .val (.int p2), .val (.int p3), .val (.int ((p2 &&& (255 : Int32)).toUInt32.toUInt16.toUInt32.toInt32)), .val (.int ((p3 &&& (255 : Int32)).toUInt32.toUInt16.toUInt32.toInt32)), .val (.int (f_first (p1 &&& (1 : Int32)))), .val (.int ((p0 &&& (2147483647 : Int32)) % (10 : Int32))), .unset, .unset] [(.int (109 : Int32)), (.int (2 : Int32)), (.ref br1), (.ref br1)])) _
                    refine str4 _ ?_
                    show Steps p.tables e below (Tr4.setTop (mkF m 303 #[.val (.int p0), .val (.int p1), .val (.int p2), .val (.int p3), .val (.int ((p2 &&& (255 : Int32)).toUInt32.toUInt16.toUInt32.toInt32)), .val (.int ((p3 &&& (255 : Int32)).toUInt32.toUInt16.toUInt32.toInt32)), .val (.int (f_first (p1 &&& (1 : Int32)))), .val (.int ((p0 &&& (2147483647 : Int32)) % (10 : Int32))), .unset, .unset] [(.ref br1)])) _
                    refine XS.dup Xr4.here hx rfl (hb hby at_303) rfl rfl ?_
                    show Steps p.tables e below (Tr4.setTop (mkF m 304 #[.val (.int p0), .val (.int p1), .val (.int p2), .val (.int p3), .val (.int ((p2 &&& (255 : Int32)).toUInt32.toUInt16.toUInt32.toInt32)), .val (.int ((p3 &&& (255 : Int32)).toUInt32.toUInt16.toUInt32.toInt32)), .val (.int (f_first (p1 &&& (1 : Int32)))), .val (.int ((p0 &&& (2147483647 : Int32)) % (10 : Int32))), .unset, .unset] [(.ref br1), (.ref br1)])) _
                    refine XS.iconst Xr4.here hx rfl (hb hby at_304) ?_
                    show Steps p.tables e below (Tr4.setTop (mkF m 305 #[.val (.int p0), .val (.int p1), .val (.int p2), .val (.int p3), .val (.int ((p2 &&& (255 : Int32)).toUInt32.toUInt16.toUInt32.toInt32)), .val (.int ((p3 &&& (255 : Int32)).toUInt32.toUInt16.toUInt32.toInt32)), .val (.int (f_first (p1 &&& (1 : Int32)))), .val (.int ((p0 &&& (2147483647 : Int32)) % (10 : Int32))), .unset, .unset] [(.int (3 : Int32)), (.ref br1), (.ref br1)])) _
                    refine XS.bipush Xr4.here hx rfl (hb hby at_305) ?_
                    show Steps p.tables e below (Tr4.setTop (mkF m 307 #[.val (.int p0), .val (.int p1), .val (.int p2), .val (.int p3), .val (.int ((p2 &&& (255 : Int32)).toUInt32.toUInt16.toUInt32.toInt32)), .val (.int ((p3 &&& (255 : Int32)).toUInt32.toUInt16.toUInt32.toInt32)), .val (.int (f_first (p1 &&& (1 : Int32)))), .val (.int ((p0 &&& (2147483647 : Int32)) % (10 : Int32))), .unset, .unset] [(.int (112 : Int32)), (.int (3 : Int32)), (.ref br1), (.ref br1)])) _
                    refine str5 _ ?_
                    show Steps p.tables e below (Tr5.setTop (mkF m 308 #[.val (.int p0), .val (.int p1), .val (.int p2), .val (.int p3), .val (.int ((p2 &&& (255 : Int32)).toUInt32.toUInt16.toUInt32.toInt32)), .val (.int ((p3 &&& (255 : Int32)).toUInt32.toUInt16.toUInt32.toInt32)), .val (.int (f_first (p1 &&& (1 : Int32)))), .val (.int ((p0 &&& (2147483647 : Int32)) % (10 : Int32))), .unset, .unset] [(.ref br1)])) _
                    refine XS.dup Xr5.here hx rfl (hb hby at_308) rfl rfl ?_
                    show Steps p.tables e below (Tr5.setTop (mkF m 309 #[.val (.int p0), .val (.int p1), .val (.int p2), .val (.int p3), .val (.int ((p2 &&& (255 : Int32)).toUInt32.toUInt16.toUInt32.toInt32)), .val (.int ((p3 &&& (255 : Int32)).toUInt32.toUInt16.toUInt32.toInt32)), .val (.int (f_first (p1 &&& (1 : Int32)))), .val (.int ((p0 &&& (2147483647 : Int32)) % (10 : Int32))), .unset, .unset] [(.ref br1), (.ref br1)])) _
                    refine XS.iconst Xr5.here hx rfl (hb hby at_309) ?_
                    show Steps p.tables e below (Tr5.setTop (mkF m 310 #[.val (.int p0), .val (.int p1), .val (.int p2), .val (.int p3), .val (.int ((p2 &&& (255 : Int32)).toUInt32.toUInt16.toUInt32.toInt32)), .val (.int ((p3 &&& (255 : Int32)).toUInt32.toUInt16.toUInt32.toInt32)), .val (.int (f_first (p1 &&& (1 : Int32)))), .val (.int ((p0 &&& (2147483647 : Int32)) % (10 : Int32))), .unset, .unset] [(.int (4 : Int32)), (.ref br1), (.ref br1)])) _
                    refine XS.bipush Xr5.here hx rfl (hb hby at_310) ?_
                    show Steps p.tables e below (Tr5.setTop (mkF m 312 #[.val (.int p0), .val (.int p1), .val (.int p2), .val (.int p3), .val (.int ((p2 &&& (255 : Int32)).toUInt32.toUInt16.toUInt32.toInt32)), .val (.int ((p3 &&& (255 : Int32)).toUInt32.toUInt16.toUInt32.toInt32)), .val (.int (f_first (p1 &&& (1 : Int32)))), .val (.int ((p0 &&& (2147483647 : Int32)) % (10 : Int32))), .unset, .unset] [(.int (45 : Int32)), (.int (4 : Int32)), (.ref br1), (.ref br1)])) _
                    refine str6 _ ?_
                    show Steps p.tables e below (Tr6.setTop (mkF m 313 #[.val (.int p0), .val (.int p1), .val (.int p2), .val (.int p3), .val (.int ((p2 &&& (255 : Int32)).toUInt32.toUInt16.toUInt32.toInt32)), .val (.int ((p3 &&& (255 : Int32)).toUInt32.toUInt16.toUInt32.toInt32)), .val (.int (f_first (p1 &&& (1 : Int32)))), .val (.int ((p0 &&& (2147483647 : Int32)) % (10 : Int32))), .unset, .unset] [(.ref br1)])) _
                    refine XS.dup Xr6.here hx rfl (hb hby at_313) rfl rfl ?_
                    show Steps p.tables e below (Tr6.setTop (mkF m 314 #[.val (.int p0), .val (.int p1), .val (.int p2), .val (.int p3), .val (.int ((p2 &&& (255 : Int32)).toUInt32.toUInt16.toUInt32.toInt32)), .val (.int ((p3 &&& (255 : Int32)).toUInt32.toUInt16.toUInt32.toInt32)), .val (.int (f_first (p1 &&& (1 : Int32)))), .val (.int ((p0 &&& (2147483647 : Int32)) % (10 : Int32))), .unset, .unset] [(.ref br1), (.ref br1)])) _
                    refine XS.iconst Xr6.here hx rfl (hb hby at_314) ?_
                    show Steps p.tables e below (Tr6.setTop (mkF m 315 #[.val (.int p0), .val (.int p1), .val (.int p2), .val (.int p3), .val (.int ((p2 &&& (255 : Int32)).toUInt32.toUInt16.toUInt32.toInt32)), .val (.int ((p3 &&& (255 : Int32)).toUInt32.toUInt16.toUInt32.toInt32)), .val (.int (f_first (p1 &&& (1 : Int32)))), .val (.int ((p0 &&& (2147483647 : Int32)) % (10 : Int32))), .unset, .unset] [(.int (5 : Int32)), (.ref br1), (.ref br1)])) _
                    refine XS.bipush Xr6.here hx rfl (hb hby at_315) ?_
                    show Steps p.tables e below (Tr6.setTop (mkF m 317 #[.val (.int p0), .val (.int p1), .val (.int p2), .val (.int p3), .val (.int ((p2 &&& (255 : Int32)).toUInt32.toUInt16.toUInt32.toInt32)), .val (.int ((p3 &&& (255 : Int32)).toUInt32.toUInt16.toUInt32.toInt32)), .val (.int (f_first (p1 &&& (1 : Int32)))), .val (.int ((p0 &&& (2147483647 : Int32)) % (10 : Int32))), .unset, .unset] [(.int (115 : Int32)), (.int (5 : Int32)), (.ref br1), (.ref br1)])) _
                    refine str7 _ ?_
                    show Steps p.tables e below (Tr7.setTop (mkF m 318 #[.val (.int p0), .val (.int p1), .val (.int p2), .val (.int p3), .val (.int ((p2 &&& (255 : Int32)).toUInt32.toUInt16.toUInt32.toInt32)), .val (.int ((p3 &&& (255 : Int32)).toUInt32.toUInt16.toUInt32.toInt32)), .val (.int (f_first (p1 &&& (1 : Int32)))), .val (.int ((p0 &&& (2147483647 : Int32)) % (10 : Int32))), .unset, .unset] [(.ref br1)])) _
                    refine XS.dup Xr7.here hx rfl (hb hby at_318) rfl rfl ?_
                    show Steps p.tables e below (Tr7.setTop (mkF m 319 #[.val (.int p0), .val (.int p1), .val (.int p2), .val (.int p3), .val (.int ((p2 &&& (255 : Int32)).toUInt32.toUInt16.toUInt32.toInt32)), .val (.int ((p3 &&& (255 : Int32)).toUInt32.toUInt16.toUInt32.toInt32)), .val (.int (f_first (p1 &&& (1 : Int32)))), .val (.int ((p0 &&& (2147483647 : Int32)) % (10 : Int32))), .unset, .unset] [(.ref br1), (.ref br1)])) _
                    refine XS.bipush Xr7.here hx rfl (hb hby at_319) ?_
                    show Steps p.tables e below (Tr7.setTop (mkF m 321 #[.val (.int p0), .val (.int p1), .val (.int p2), .val (.int p3), .val (.int ((p2 &&& (255 : Int32)).toUInt32.toUInt16.toUInt32.toInt32)), .val (.int ((p3 &&& (255 : Int32)).toUInt32.toUInt16.toUInt32.toInt32)), .val (.int (f_first (p1 &&& (1 : Int32)))), .val (.int ((p0 &&& (2147483647 : Int32)) % (10 : Int32))), .unset, .unset] [(.int (6 : Int32)), (.ref br1), (.ref br1)])) _
                    refine XS.bipush Xr7.here hx rfl (hb hby at_321) ?_
                    show Steps p.tables e below (Tr7.setTop (mkF m 323 #[.val (.int p0), .val (.int p1), .val (.int p2), .val (.int p3), .val (.int ((p2 &&& (255 : Int32)).toUInt32.toUInt16.toUInt32.toInt32)), .val (.int ((p3 &&& (255 : Int32)).toUInt32.toUInt16.toUInt32.toInt32)), .val (.int (f_first (p1 &&& (1 : Int32)))), .val (.int ((p0 &&& (2147483647 : Int32)) % (10 : Int32))), .unset, .unset] [(.int (117 : Int32)), (.int (6 : Int32)), (.ref br1), (.ref br1)])) _
                    refine str8 _ ?_
                    show Steps p.tables e below (Tr8.setTop (mkF m 324 #[.val (.int p0), .val (.int p1), .val (.int p2), .val (.int p3), .val (.int ((p2 &&& (255 : Int32)).toUInt32.toUInt16.toUInt32.toInt32)), .val (.int ((p3 &&& (255 : Int32)).toUInt32.toUInt16.toUInt32.toInt32)), .val (.int (f_first (p1 &&& (1 : Int32)))), .val (.int ((p0 &&& (2147483647 : Int32)) % (10 : Int32))), .unset, .unset] [(.ref br1)])) _
                    refine XS.dup Xr8.here hx rfl (hb hby at_324) rfl rfl ?_
                    show Steps p.tables e below (Tr8.setTop (mkF m 325 #[.val (.int p0), .val (.int p1), .val (.int p2), .val (.int p3), .val (.int ((p2 &&& (255 : Int32)).toUInt32.toUInt16.toUInt32.toInt32)), .val (.int ((p3 &&& (255 : Int32)).toUInt32.toUInt16.toUInt32.toInt32)), .val (.int (f_first (p1 &&& (1 : Int32)))), .val (.int ((p0 &&& (2147483647 : Int32)) % (10 : Int32))), .unset, .unset] [(.ref br1), (.ref br1)])) _
                    refine XS.bipush Xr8.here hx rfl (hb hby at_325) ?_
                    show Steps p.tables e below (Tr8.setTop (mkF m 327 #[.val (.int p0), .val (.int p1), .val (.int p2), .val (.int p3), .val (.int ((p2 &&& (255 : Int32)).toUInt32.toUInt16.toUInt32.toInt32)), .val (.int ((p3 &&& (255 : Int32)).toUInt32.toUInt16.toUInt32.toInt32)), .val (.int (f_first (p1 &&& (1 : Int32)))), .val (.int ((p0 &&& (2147483647 : Int32)) % (10 : Int32))), .unset, .unset] [(.int (7 : Int32)), (.ref br1), (.ref br1)])) _
                    refine XS.bipush Xr8.here hx rfl (hb hby at_327) ?_
                    show Steps p.tables e below (Tr8.setTop (mkF m 329 #[.val (.int p0), .val (.int p1), .val (.int p2), .val (.int p3), .val (.int ((p2 &&& (255 : Int32)).toUInt32.toUInt16.toUInt32.toInt32)), .val (.int ((p3 &&& (255 : Int32)).toUInt32.toUInt16.toUInt32.toInt32)), .val (.int (f_first (p1 &&& (1 : Int32)))), .val (.int ((p0 &&& (2147483647 : Int32)) % (10 : Int32))), .unset, .unset] [(.int (109 : Int32)), (.int (7 : Int32)), (.ref br1), (.ref br1)])) _
                    refine str9 _ ?_
                    show Steps p.tables e below (Tr9.setTop (mkF m 330 #[.val (.int p0), .val (.int p1), .val (.int p2), .val (.int p3), .val (.int ((p2 &&& (255 : Int32)).toUInt32.toUInt16.toUInt32.toInt32)), .val (.int ((p3 &&& (255 : Int32)).toUInt32.toUInt16.toUInt32.toInt32)), .val (.int (f_first (p1 &&& (1 : Int32)))), .val (.int ((p0 &&& (2147483647 : Int32)) % (10 : Int32))), .unset, .unset] [(.ref br1)])) _
                    refine XS.dup Xr9.here hx rfl (hb hby at_330) rfl rfl ?_
                    show Steps p.tables e below (Tr9.setTop (mkF m 331 #[.val (.int p0), .val (.int p1), .val (.int p2), .val (.int p3), .val (.int ((p2 &&& (255 : Int32)).toUInt32.toUInt16.toUInt32.toInt32)), .val (.int ((p3 &&& (255 : Int32)).toUInt32.toUInt16.toUInt32.toInt32)), .val (.int (f_first (p1 &&& (1 : Int32)))), .val (.int ((p0 &&& (2147483647 : Int32)) % (10 : Int32))), .unset, .unset] [(.ref br1), (.ref br1)])) _
                    refine XS.bipush Xr9.here hx rfl (hb hby at_331) ?_
                    show Steps p.tables e below (Tr9.setTop (mkF m 333 #[.val (.int p0), .val (.int p1), .val (.int p2), .val (.int p3), .val (.int ((p2 &&& (255 : Int32)).toUInt32.toUInt16.toUInt32.toInt32)), .val (.int ((p3 &&& (255 : Int32)).toUInt32.toUInt16.toUInt32.toInt32)), .val (.int (f_first (p1 &&& (1 : Int32)))), .val (.int ((p0 &&& (2147483647 : Int32)) % (10 : Int32))), .unset, .unset] [(.int (8 : Int32)), (.ref br1), (.ref br1)])) _
                    refine XS.iload Xr9.here hx rfl (hb hby at_333) rfl ?_
                    show Steps p.tables e below (Tr9.setTop (mkF m 335 #[.val (.int p0), .val (.int p1), .val (.int p2), .val (.int p3), .val (.int ((p2 &&& (255 : Int32)).toUInt32.toUInt16.toUInt32.toInt32)), .val (.int ((p3 &&& (255 : Int32)).toUInt32.toUInt16.toUInt32.toInt32)), .val (.int (f_first (p1 &&& (1 : Int32)))), .val (.int ((p0 &&& (2147483647 : Int32)) % (10 : Int32))), .unset, .unset] [(.int ((p2 &&& (255 : Int32)).toUInt32.toUInt16.toUInt32.toInt32)), (.int (8 : Int32)), (.ref br1), (.ref br1)])) _
                    refine str10 _ ?_
                    show Steps p.tables e below (Tr10.setTop (mkF m 336 #[.val (.int p0), .val (.int p1), .val (.int p2), .val (.int p3), .val (.int ((p2 &&& (255 : Int32)).toUInt32.toUInt16.toUInt32.toInt32)), .val (.int ((p3 &&& (255 : Int32)).toUInt32.toUInt16.toUInt32.toInt32)), .val (.int (f_first (p1 &&& (1 : Int32)))), .val (.int ((p0 &&& (2147483647 : Int32)) % (10 : Int32))), .unset, .unset] [(.ref br1)])) _
                    refine XS.astore Xr10.here hx rfl (hb hby at_336) rfl rfl (l' := #[.val (.int p0), .val (.int p1), .val (.int p2), .val (.int p3), .val (.int ((p2 &&& (255 : Int32)).toUInt32.toUInt16.toUInt32.toInt32)), .val (.int ((p3 &&& (255 : Int32)).toUInt32.toUInt16.toUInt32.toInt32)), .val (.int (f_first (p1 &&& (1 : Int32)))), .val (.int ((p0 &&& (2147483647 : Int32)) % (10 : Int32))), .unset, .val (.ref br1)]) rfl ?_
                    show Steps p.tables e below (Tr10.setTop (mkF m 338 #[.val (.int p0), .val (.int p1), .val (.int p2), .val (.int p3), .val (.int ((p2 &&& (255 : Int32)).toUInt32.toUInt16.toUInt32.toInt32)), .val (.int ((p3 &&& (255 : Int32)).toUInt32.toUInt16.toUInt32.toInt32)), .val (.int (f_first (p1 &&& (1 : Int32)))), .val (.int ((p0 &&& (2147483647 : Int32)) % (10 : Int32))), .unset, .val (.ref br1)] [])) _
                    refine str11 _ ?_
                    show Steps p.tables e below (Tr11.setTop (mkF m 341 #[.val (.int p0), .val (.int p1), .val (.int p2), .val (.int p3), .val (.int ((p2 &&& (255 : Int32)).toUInt32.toUInt16.toUInt32.toInt32)), .val (.int ((p3 &&& (255 : Int32)).toUInt32.toUInt16.toUInt32.toInt32)), .val (.int (f_first (p1 &&& (1 : Int32)))), .val (.int ((p0 &&& (2147483647 : Int32)) % (10 : Int32))), .unset, .val (.ref br1)] [(.ref br11)])) _
                    refine XS.dup Xr11.here hx rfl (hb hby at_341) rfl rfl ?_
                    show Steps p.tables e below (Tr11.setTop (mkF m 342 #[.val (.int p0), .val (.int p1), .val (.int p2), .val (.int p3), .val (.int ((p2 &&& (255 : Int32)).toUInt32.toUInt16.toUInt32.toInt32)), .val (.int ((p3 &&& (255 : Int32)).toUInt32.toUInt16.toUInt32.toInt32)), .val (.int (f_first (p1 &&& (1 : Int32)))), .val (.int ((p0 &&& (2147483647 : Int32)) % (10 : Int32))), .unset, .val (.ref br1)] [(.ref br11), (.ref br11)])) _
                    refine XS.aload Xr11.here hx rfl (hb hby at_342) rfl rfl ?_
                    show Steps p.tables e below (Tr11.setTop (mkF m 344 #[.val (.int p0), .val (.int p1), .val (.int p2), .val (.int p3), .val (.int ((p2 &&& (255 : Int32)).toUInt32.toUInt16.toUInt32.toInt32)), .val (.int ((p3 &&& (255 : Int32)).toUInt32.toUInt16.toUInt32.toInt32)), .val (.int (f_first (p1 &&& (1 : Int32)))), .val (.int ((p0 &&& (2147483647 : Int32)) % (10 : Int32))), .unset, .val (.ref br1)] [(.ref br1), (.ref br11), (.ref br11)])) _
                    refine str12.trans ?_
                    show Steps p.tables e below (Tr12.setTop (mkF m 347 #[.val (.int p0), .val (.int p1), .val (.int p2), .val (.int p3), .val (.int ((p2 &&& (255 : Int32)).toUInt32.toUInt16.toUInt32.toInt32)), .val (.int ((p3 &&& (255 : Int32)).toUInt32.toUInt16.toUInt32.toInt32)), .val (.int (f_first (p1 &&& (1 : Int32)))), .val (.int ((p0 &&& (2147483647 : Int32)) % (10 : Int32))), .unset, .val (.ref br1)] [(.ref br11)])) _
                    refine XS.astore Xr12.here hx rfl (hb hby at_347) rfl rfl (l' := #[.val (.int p0), .val (.int p1), .val (.int p2), .val (.int p3), .val (.int ((p2 &&& (255 : Int32)).toUInt32.toUInt16.toUInt32.toInt32)), .val (.int ((p3 &&& (255 : Int32)).toUInt32.toUInt16.toUInt32.toInt32)), .val (.int (f_first (p1 &&& (1 : Int32)))), .val (.int ((p0 &&& (2147483647 : Int32)) % (10 : Int32))), .val (.ref br11), .val (.ref br1)]) rfl ?_
                    show Steps p.tables e below (Tr12.setTop (mkF m 349 #[.val (.int p0), .val (.int p1), .val (.int p2), .val (.int p3), .val (.int ((p2 &&& (255 : Int32)).toUInt32.toUInt16.toUInt32.toInt32)), .val (.int ((p3 &&& (255 : Int32)).toUInt32.toUInt16.toUInt32.toInt32)), .val (.int (f_first (p1 &&& (1 : Int32)))), .val (.int ((p0 &&& (2147483647 : Int32)) % (10 : Int32))), .val (.ref br11), .val (.ref br1)] [])) _
                    refine XS.goto Xr12.here hx rfl (pc0 := 349) (pc' := 632) rfl (hb hby at_349) (by decide) (by decide) ?_
                    show Steps p.tables e below (Tr12.setTop (mkF m 632 #[.val (.int p0), .val (.int p1), .val (.int p2), .val (.int p3), .val (.int ((p2 &&& (255 : Int32)).toUInt32.toUInt16.toUInt32.toInt32)), .val (.int ((p3 &&& (255 : Int32)).toUInt32.toUInt16.toUInt32.toInt32)), .val (.int (f_first (p1 &&& (1 : Int32)))), .val (.int ((p0 &&& (2147483647 : Int32)) % (10 : Int32))), .val (.ref br11), .val (.ref br1)] [])) _
                    exact hst
                  show Steps p.tables e below (s₁.setTop (mkF m 19 #[.val (.int p0), .val (.int p1), .val (.int p2), .val (.int p3), .val (.int ((p2 &&& (255 : Int32)).toUInt32.toUInt16.toUInt32.toInt32)), .val (.int ((p3 &&& (255 : Int32)).toUInt32.toUInt16.toUInt32.toInt32)), .unset, .unset, .unset, .unset] [(.int (p1 &&& (1 : Int32)))])) _
                  by_cases hc19_0 : (p1 &&& (1 : Int32)) = (0 : Int32)
                  · refine XS.ifNo X0.here hx rfl (hb hby at_19) rfl ((if0 _ _).trans (teq hc19_0).2) ?_
                    show Steps p.tables e below (s₁.setTop (mkF m 22 #[.val (.int p0), .val (.int p1), .val (.int p2), .val (.int p3), .val (.int ((p2 &&& (255 : Int32)).toUInt32.toUInt16.toUInt32.toInt32)), .val (.int ((p3 &&& (255 : Int32)).toUInt32.toUInt16.toUInt32.toInt32)), .unset, .unset, .unset, .unset] [])) _
                    refine XS.iconst X0.here hx rfl (hb hby at_22) ?_
                    show Steps p.tables e below (s₁.setTop (mkF m 23 #[.val (.int p0), .val (.int p1), .val (.int p2), .val (.int p3), .val (.int ((p2 &&& (255 : Int32)).toUInt32.toUInt16.toUInt32.toInt32)), .val (.int ((p3 &&& (255 : Int32)).toUInt32.toUInt16.toUInt32.toInt32)), .unset, .unset, .unset, .unset] [(.int (1 : Int32))])) _
                    refine XS.goto X0.here hx rfl (pc0 := 23) (pc' := 27) rfl (hb hby at_23) (by decide) (by decide) ?_
                    show Steps p.tables e below (s₁.setTop (mkF m 27 #[.val (.int p0), .val (.int p1), .val (.int p2), .val (.int p3), .val (.int ((p2 &&& (255 : Int32)).toUInt32.toUInt16.toUInt32.toInt32)), .val (.int ((p3 &&& (255 : Int32)).toUInt32.toUInt16.toUInt32.toInt32)), .unset, .unset, .unset, .unset] [(.int (1 : Int32))])) _
                    have hf : f_first (p1 &&& (1 : Int32)) = (1 : Int32) := by unfold f_first; rw [if_pos hc19_0]
                    rw [hf] at key
                    exact key
                  · refine XS.ifYes X0.here hx rfl (pc0 := 19) (pc' := 26) rfl (hb hby at_19) rfl ((if0 _ _).trans (feq hc19_0).2) (by decide) (by decide) ?_
                    show Steps p.tables e below (s₁.setTop (mkF m 26 #[.val (.int p0), .val (.int p1), .val (.int p2), .val (.int p3), .val (.int ((p2 &&& (255 : Int32)).toUInt32.toUInt16.toUInt32.toInt32)), .val (.int ((p3 &&& (255 : Int32)).toUInt32.toUInt16.toUInt32.toInt32)), .unset, .unset, .unset, .unset] [])) _
                    refine XS.iconst X0.here hx rfl (hb hby at_26) ?_
                    show Steps p.tables e below (s₁.setTop (mkF m 27 #[.val (.int p0), .val (.int p1), .val (.int p2), .val (.int p3), .val (.int ((p2 &&& (255 : Int32)).toUInt32.toUInt16.toUInt32.toInt32)), .val (.int ((p3 &&& (255 : Int32)).toUInt32.toUInt16.toUInt32.toInt32)), .unset, .unset, .unset, .unset] [(.int (0 : Int32))])) _
                    have hf : f_first (p1 &&& (1 : Int32)) = (0 : Int32) := by unfold f_first; rw [if_neg hc19_0]
                    rw [hf] at key
                    exact key
              · by_cases hcase7 : ((p0 &&& (2147483647 : Int32)) % (10 : Int32)) = (7 : Int32)
                · by_cases hff : f_first (p1 &&& (1 : Int32)) = (0 : Int32)
                  · have O0 : Old Z n0 h0 := ⟨by rw [← hU, hh, hn0], by rw [← hU, hh]; exact ⟨Nat.le_refl _, fun _ _ q => q⟩⟩
                    obtain ⟨Tr1, hr1, kr1, Xr1, er1, Er1, Ar1, str1⟩ := newP X0 hx hZ (hw _ (List.mem_of_getElem? (i := 37) rfl)) e0 (g := (mkF m 514 #[.val (.int p0), .val (.int p1), .val (.int p2), .val (.int p3), .val (.int ((p2 &&& (255 : Int32)).toUInt32.toUInt16.toUInt32.toInt32)), .val (.int ((p3 &&& (255 : Int32)).toUInt32.toUInt16.toUInt32.toInt32)), .val (.int (f_first (p1 &&& (1 : Int32)))), .val (.int ((p0 &&& (2147483647 : Int32)) % (10 : Int32))), .unset, .unset] [(.int (11 : Int32))])) rfl (hb hby at_514) rfl (by decide) (cap := 11) (by decide) (by decide) (by decide) (by decide)
                    obtain ⟨br1, gr1⟩ : ∃ z, z = h0.size := ⟨_, rfl⟩
                    rw [← gr1] at Ar1 str1
                    have Vr1 : Arv Z hr1 br1 kr1 .char (11 : Int32) [(.int (0 : Int32)), (.int (0 : Int32)), (.int (0 : Int32)), (.int (0 : Int32)), (.int (0 : Int32)), (.int (0 : Int32)), (.int (0 : Int32)), (.int (0 : Int32)), (.int (0 : Int32)), (.int (0 : Int32)), (.int (0 : Int32))] (.int (0 : Int32)) := (Arv.new Ar1 (by decide)).pad (pad_rep [] (.int (0 : Int32)) 11)
                    have g_br1 : n0 ≤ br1 := Nat.le_trans Z0 (Nat.le_of_eq gr1.symm)
                    have Zr1 : n0 ≤ hr1.size := Nat.le_trans Z0 Er1.1
                    have Or1 := O0.ext Er1
                    have G0 := hH0.ext Er1
                    obtain ⟨cr2, Ar2, qr2, Sr2, Mr2, Hr2, Ur2⟩ := id Vr1
                    obtain ⟨Tr2, hr2, Xr2, er2, Wr2, str2⟩ := stC Xr1 hx hZ er1 Ar2 (j := (0 : Int32)) (inb_of Sr2 ⟨(by decide : ¬ ((0 : Int32) < (0 : Int32))), (by decide : (0 : Int32) < (11 : Int32))⟩) (g := (mkF m 520 #[.val (.int p0), .val (.int p1), .val (.int p2), .val (.int p3), .val (.int ((p2 &&& (255 : Int32)).toUInt32.toUInt16.toUInt32.toInt32)), .val (.int ((p3 &&& (255 : Int32)).toUInt32.toUInt16.toUInt32.toInt32)), .val (.int (f_first (p1 &&& (1 : Int32)))), .val (.int ((p0 &&& (2147483647 : Int32)) % (10 : Int32))), .unset, .unset] [(.int (105 : Int32)), (.int (0 : Int32)), (.ref br1), (.ref br1)])) rfl rfl (hb hby at_520)
                    have Nr2 := Fr.snoc Xr2 N0 g_br1
                    have Vr2 : Arv Z hr2 br1 kr1 .char (11 : Int32) [(.int (nar .char (105 : Int32))), (.int (0 : Int32)), (.int (0 : Int32)), (.int (0 : Int32)), (.int (0 : Int32)), (.int (0 : Int32)), (.int (0 : Int32)), (.int (0 : Int32)), (.int (0 : Int32)), (.int (0 : Int32)), (.int (0 : Int32))] (.int (0 : Int32)) := Arv.set Ar2 qr2 Sr2 Mr2 Hr2 Ur2 (fits_nar_char _) Wr2 0 rfl (Nat.le_of_ble_eq_true rfl)
                    have Zr2 : n0 ≤ hr2.size := Nat.le_trans Zr1 (Keep.of_wr Wr2).1
                    obtain ⟨Lpr2, Xr2, Nr2⟩ := own_pack Xr2 Nr2
                    have Or2 := Or1.wr Wr2 g_br1
                    have Gr2 := G0.wr Wr2 (Safe.arr hZ.alike Ar2 (by decide))
                    obtain ⟨cr3, Ar3, qr3, Sr3, Mr3, Hr3, Ur3⟩ := id Vr2
                    obtain ⟨Tr3, hr3, Xr3, er3, Wr3, str3⟩ := stC Xr2 hx hZ er2 Ar3 (j := (1 : Int32)) (inb_of Sr3 ⟨(by decide : ¬ ((1 : Int32) < (0 : Int32))), (by decide : (1 : Int32) < (11 : Int32))⟩) (g := (mkF m 525 #[.val (.int p0), .val (.int p1), .val (.int p2), .val (.int p3), .val (.int ((p2 &&& (255 : Int32)).toUInt32.toUInt16.toUInt32.toInt32)), .val (.int ((p3 &&& (255 : Int32)).toUInt32.toUInt16.toUInt32.toInt32)), .val (.int (f_first (p1 &&& (1 : Int32)))), .val (.int ((p0 &&& (2147483647 : Int32)) % (10 : Int32))), .unset, .unset] [(.int (110 : Int32)), (.int (1 : Int32)), (.ref br1), (.ref br1)])) rfl rfl (hb hby at_525)
                    have Nr3 := Fr.snoc Xr3 Nr2 g_br1
                    have Vr3 : Arv Z hr3 br1 kr1 .char (11 : Int32) [(.int (nar .char (105 : Int32))), (.int (nar .char (110 : Int32))), (.int (0 : Int32)), (.int (0 : Int32)), (.int (0 : Int32)), (.int (0 : Int32)), (.int (0 : Int32)), (.int (0 : Int32)), (.int (0 : Int32)), (.int (0 : Int32)), (.int (0 : Int32))] (.int (0 : Int32)) := Arv.set Ar3 qr3 Sr3 Mr3 Hr3 Ur3 (fits_nar_char _) Wr3 1 rfl (Nat.le_of_ble_eq_true rfl)
                    have Zr3 : n0 ≤ hr3.size := Nat.le_trans Zr2 (Keep.of_wr Wr3).1
                    obtain ⟨Lpr3, Xr3, Nr3⟩ := own_pack Xr3 Nr3
                    have Or3 := Or2.wr Wr3 g_br1
                    have Gr3 := Gr2.wr Wr3 (Safe.arr hZ.alike Ar3 (by decide))
                    obtain ⟨cr4, Ar4, qr4, Sr4, Mr4, Hr4, Ur4⟩ := id Vr3
                    obtain ⟨Tr4, hr4, Xr4, er4, Wr4, str4⟩ := stC Xr3 hx hZ er3 Ar4 (j := (2 : Int32)) (inb_of Sr4 ⟨(by decide : ¬ ((2 : Int32) < (0 : Int32))), (by decide : (2 : Int32) < (11 : Int32))⟩) (g := (mkF m 530 #[.val (.int p0), .val (.int p1), .val (.int p2), .val (.int p3), .val (.int ((p2 &&& (255 : Int32)).toUInt32.toUInt16.toUInt32.toInt32)), .val (.int ((p3 &&& (255 : Int32)).toUInt32.toUInt16.toUInt32.toInt32)), .val (.int (f_first (p1 &&& (1 : Int32)))), .val (.int ((p0 &&& (2147483647 : Int32)) % (10 : Int32))), .unset, .unset] [(.int (115 : Int32)), (.int (2 : Int32)), (.ref br1), (.ref br1)])) rfl rfl (hb hby at_530)
                    have Nr4 := Fr.snoc Xr4 Nr3 g_br1
                    have Vr4 : Arv Z hr4 br1 kr1 .char (11 : Int32) [(.int (nar .char (105 : Int32))), (.int (nar .char (110 : Int32))), (.int (nar .char (115 : Int32))), (.int (0 : Int32)), (.int (0 : Int32)), (.int (0 : Int32)), (.int (0 : Int32)), (.int (0 : Int32)), (.int (0 : Int32)), (.int (0 : Int32)), (.int (0 : Int32))] (.int (0 : Int32)) := Arv.set Ar4 qr4 Sr4 Mr4 Hr4 Ur4 (fits_nar_char _) Wr4 2 rfl (Nat.le_of_ble_eq_true rfl)
                    have Zr4 : n0 ≤ hr4.size := Nat.le_trans Zr3 (Keep.of_wr Wr4).1
                    obtain ⟨Lpr4, Xr4, Nr4⟩ := own_pack Xr4 Nr4
                    have Or4 := Or3.wr Wr4 g_br1
                    have Gr4 := Gr3.wr Wr4 (Safe.arr hZ.alike Ar4 (by decide))
                    obtain ⟨cr5, Ar5, qr5, Sr5, Mr5, Hr5, Ur5⟩ := id Vr4
                    obtain ⟨Tr5, hr5, Xr5, er5, Wr5, str5⟩ := stC Xr4 hx hZ er4 Ar5 (j := (3 : Int32)) (inb_of Sr5 ⟨(by decide : ¬ ((3 : Int32) < (0 : Int32))), (by decide : (3 : Int32) < (11 : Int32))⟩) (g := (mkF m 535 #[.val (.int p0), .val (.int p1), .val (.int p2), .val (.int p3), .val (.int ((p2 &&& (255 : Int32)).toUInt32.toUInt16.toUInt32.toInt32)), .val (.int ((p3 &&& (255 : Int32)).toUInt32.toUInt16.toUInt32.toInt32)), .val (.int (f_first (p1 &&& (1 : Int32)))), .val (.int ((p0 &&& (2147483647 : Int32)) % (10 : Int32))), .unset, .unset] [(.int (116 : Int32)), (.int (3 : Int32)), (.ref br1), (.ref br1)])) rfl rfl (hb hby at_535)
                    have Nr5 := Fr.snoc Xr5 Nr4 g_br1
                    have Vr5 : Arv Z hr5 br1 kr1 .char (11 : Int32) [(.int (nar .char (105 : Int32))), (.int (nar .char (110 : Int32))), (.int (nar .char (115 : Int32))), (.int (nar .char (116 : Int32))), (.int (0 : Int32)), (.int (0 : Int32)), (.int (0 : Int32)), (.int (0 : Int32)), (.int (0 : Int32)), (.int (0 : Int32)), (.int (0 : Int32))] (.int (0 : Int32)) := Arv.set Ar5 qr5 Sr5 Mr5 Hr5 Ur5 (fits_nar_char _) Wr5 3 rfl (Nat.le_of_ble_eq_true rfl)
                    have Zr5 : n0 ≤ hr5.size := Nat.le_trans Zr4 (Keep.of_wr Wr5).1
                    obtain ⟨Lpr5, Xr5, Nr5⟩ := own_pack Xr5 Nr5
                    have Or5 := Or4.wr Wr5 g_br1
                    have Gr5 := Gr4.wr Wr5 (Safe.arr hZ.alike Ar5 (by decide))
                    obtain ⟨cr6, Ar6, qr6, Sr6, Mr6, Hr6, Ur6⟩ := id Vr5
                    obtain ⟨Tr6, hr6, Xr6, er6, Wr6, str6⟩ := stC Xr5 hx hZ er5 Ar6 (j := (4 : Int32)) (inb_of Sr6 ⟨(by decide : ¬ ((4 : Int32) < (0 : Int32))), (by decide : (4 : Int32) < (11 : Int32))⟩) (g := (mkF m 540 #[.val (.int p0), .val (.int p1), .val (.int p2), .val (.int p3), .val (.int ((p2 &&& (255 : Int32)).toUInt32.toUInt16.toUInt32.toInt32)), .val (.int ((p3 &&& (255 : Int32)).toUInt32.toUInt16.toUInt32.toInt32)), .val (.int (f_first (p1 &&& (1 : Int32)))), .val (.int ((p0 &&& (2147483647 : Int32)) % (10 : Int32))), .unset, .unset] [(.int (97 : Int32)), (.int (4 : Int32)), (.ref br1), (.ref br1)])) rfl rfl (hb hby at_540)
                    have Nr6 := Fr.snoc Xr6 Nr5 g_br1
                    have Vr6 : Arv Z hr6 br1 kr1 .char (11 : Int32) [(.int (nar .char (105 : Int32))), (.int (nar .char (110 : Int32))), (.int (nar .char (115 : Int32))), (.int (nar .char (116 : Int32))), (.int (nar .char (97 : Int32))), (.int (0 : Int32)), (.int (0 : Int32)), (.int (0 : Int32)), (.int (0 : Int32)), (.int (0 : Int32)), (.int (0 : Int32))] (.int (0 : Int32)) := Arv.set Ar6 qr6 Sr6 Mr6 Hr6 Ur6 (fits_nar_char _) Wr6 4 rfl (Nat.le_of_ble_eq_true rfl)
                    have Zr6 : n0 ≤ hr6.size := Nat.le_trans Zr5 (Keep.of_wr Wr6).1
                    obtain ⟨Lpr6, Xr6, Nr6⟩ := own_pack Xr6 Nr6
                    have Or6 := Or5.wr Wr6 g_br1
                    have Gr6 := Gr5.wr Wr6 (Safe.arr hZ.alike Ar6 (by decide))
                    obtain ⟨cr7, Ar7, qr7, Sr7, Mr7, Hr7, Ur7⟩ := id Vr6
                    obtain ⟨Tr7, hr7, Xr7, er7, Wr7, str7⟩ := stC Xr6 hx hZ er6 Ar7 (j := (5 : Int32)) (inb_of Sr7 ⟨(by decide : ¬ ((5 : Int32) < (0 : Int32))), (by decide : (5 : Int32) < (11 : Int32))⟩) (g := (mkF m 545 #[.val (.int p0), .val (.int p1), .val (.int p2), .val (.int p3), .val (.int ((p2 &&& (255 : Int32)).toUInt32.toUInt16.toUInt32.toInt32)), .val (.int ((p3 &&& (255 : Int32)).toUInt32.toUInt16.toUInt32.toInt32)), .val (.int (f_first (p1 &&& (1 : Int32)))), .val (.int ((p0 &&& (2147483647 : Int32)) % (10 : Int32))), .unset, .unset] [(.int (108 : Int32)), (.int (5 : Int32)), (.ref br1), (.ref br1)])) rfl rfl (hb hby at_545)
                    have Nr7 := Fr.snoc Xr7 Nr6 g_br1
                    have Vr7 : Arv Z hr7 br1 kr1 .char (11 : Int32) [(.int (nar .char (105 : Int32))), (.int (nar .char (110 : Int32))), (.int (nar .char (115 : Int32))), (.int (nar .char (116 : Int32))), (.int (nar .char (97 : Int32))), (.int (nar .char (108 : Int32))), (.int (0 : Int32)), (.int (0 : Int32)), (.int (0 : Int32)), (.int (0 : Int32)), (.int (0 : Int32))] (.int (0 : Int32)) := Arv.set Ar7 qr7 Sr7 Mr7 Hr7 Ur7 (fits_nar_char _) Wr7 5 rfl (Nat.le_of_ble_eq_true rfl)
                    have Zr7 : n0 ≤ hr7.size := Nat.le_trans Zr6 (Keep.of_wr Wr7).1
                    obtain ⟨Lpr7, Xr7, Nr7⟩ := own_pack Xr7 Nr7
                    have Or7 := Or6.wr Wr7 g_br1
                    have Gr7 := Gr6.wr Wr7 (Safe.arr hZ.alike Ar7 (by decide))
                    obtain ⟨cr8, Ar8, qr8, Sr8, Mr8, Hr8, Ur8⟩ := id Vr7
                    obtain ⟨Tr8, hr8, Xr8, er8, Wr8, str8⟩ := stC Xr7 hx hZ er7 Ar8 (j := (6 : Int32)) (inb_of Sr8 ⟨(by decide : ¬ ((6 : Int32) < (0 : Int32))), (by decide : (6 : Int32) < (11 : Int32))⟩) (g := (mkF m 551 #[.val (.int p0), .val (.int p1), .val (.int p2), .val (.int p3), .val (.int ((p2 &&& (255 : Int32)).toUInt32.toUInt16.toUInt32.toInt32)), .val (.int ((p3 &&& (255 : Int32)).toUInt32.toUInt16.toUInt32.toInt32)), .val (.int (f_first (p1 &&& (1 : Int32)))), .val (.int ((p0 &&& (2147483647 : Int32)) % (10 : Int32))), .unset, .unset] [(.int (108 : Int32)), (.int (6 : Int32)), (.ref br1), (.ref br1)])) rfl rfl (hb hby at_551)
                    have Nr8 := Fr.snoc Xr8 Nr7 g_br1
                    have Vr8 : Arv Z hr8 br1 kr1 .char (11 : Int32) [(.int (nar .char (105 : Int32))), (.int (nar .char (110 : Int32))), (.int (nar .char (115 : Int32))), (.int (nar .char (116 : Int32))), (.int (nar .char (97 : Int32))), (.int (nar .char (108 : Int32))), (.int (nar .char (108 : Int32))), (.int (0 : Int32)), (.int (0 : Int32)), (.int (0 : Int32)), (.int (0 : Int32))] (.int (0 : Int32)) := Arv.set Ar8 qr8 Sr8 Mr8 Hr8 Ur8 (fits_nar_char _) Wr8 6 rfl (Nat.le_of_ble_eq_true rfl)
                    have Zr8 : n0 ≤ hr8.size := Nat.le_trans Zr7 (Keep.of_wr Wr8).1
                    obtain ⟨Lpr8, Xr8, Nr8⟩ := own_pack Xr8 Nr8
                    have Or8 := Or7.wr Wr8 g_br1
                    have Gr8 := Gr7.wr Wr8 (Safe.arr hZ.alike Ar8 (by decide))
                    obtain ⟨cr9, Ar9, qr9, Sr9, Mr9, Hr9, Ur9⟩ := id Vr8
                    obtain ⟨Tr9, hr9, Xr9, er9, Wr9, str9⟩ := stC Xr8 hx hZ er8 Ar9 (j := (7 : Int32)) (inb_of Sr9 ⟨(by decide : ¬ ((7 : Int32) < (0 : Int32))), (by decide : (7 : Int32) < (11 : Int32))⟩) (g := (mkF m 557 #[.val (.int p0), .val (.int p1), .val (.int p2), .val (.int p3), .val (.int ((p2 &&& (255 : Int32)).toUInt32.toUInt16.toUInt32.toInt32)), .val (.int ((p3 &&& (255 : Int32)).toUInt32.toUInt16.toUInt32.toInt32)), .val (.int (f_first (p1 &&& (1 : Int32)))), .val (.int ((p0 &&& (2147483647 : Int32)) % (10 : Int32))), .unset, .unset] [(.int (109 : Int32)), (.int (7 : Int32)), (.ref br1), (.ref br1)])) rfl rfl (hb hby at_557)
                    have Nr9 := Fr.snoc Xr9 Nr8 g_br1
                    have Vr9 : Arv Z hr9 br1 kr1 .char (11 : Int32) [(.int (nar .char (105 : Int32))), (.int (nar .char (110 : Int32))), (.int (nar .char (115 : Int32))), (.int (nar .char (116 : Int32))), (.int (nar .char (97 : Int32))), (.int (nar .char (108 : Int32))), (.int (nar .char (108 : Int32))), (.int (nar .char (109 : Int32))), (.int (0 : Int32)), (.int (0 : Int32)), (.int (0 : Int32))] (.int (0 : Int32)) := Arv.set Ar9 qr9 Sr9 Mr9 Hr9 Ur9 (fits_nar_char _) Wr9 7 rfl (Nat.le_of_ble_eq_true rfl)
                    have Zr9 : n0 ≤ hr9.size := Nat.le_trans Zr8 (Keep.of_wr Wr9).1
                    obtain ⟨Lpr9, Xr9, Nr9⟩ := own_pack Xr9 Nr9
                    have Or9 := Or8.wr Wr9 g_br1
                    have Gr9 := Gr8.wr Wr9 (Safe.arr hZ.alike Ar9 (by decide))
                    obtain ⟨cr10, Ar10, qr10, Sr10, Mr10, Hr10, Ur10⟩ := id Vr9
                    obtain ⟨Tr10, hr10, Xr10, er10, Wr10, str10⟩ := stC Xr9 hx hZ er9 Ar10 (j := (8 : Int32)) (inb_of Sr10 ⟨(by decide : ¬ ((8 : Int32) < (0 : Int32))), (by decide : (8 : Int32) < (11 : Int32))⟩) (g := (mkF m 563 #[.val (.int p0), .val (.int p1), .val (.int p2), .val (.int p3), .val (.int ((p2 &&& (255 : Int32)).toUInt32.toUInt16.toUInt32.toInt32)), .val (.int ((p3 &&& (255 : Int32)).toUInt32.toUInt16.toUInt32.toInt32)), .val (.int (f_first (p1 &&& (1 : Int32)))), .val (.int ((p0 &&& (2147483647 : Int32)) % (10 : Int32))), .unset, .unset] [(.int (101 : Int32)), (.int (8 : Int32)), (.ref br1), (.ref br1)])) rfl rfl (hb hby at_563)
                    have Nr10 := Fr.snoc Xr10 Nr9 g_br1
                    have Vr10 : Arv Z hr10 br1 kr1 .char (11 : Int32) [(.int (nar .char (105 : Int32))), (.int (nar .char (110 : Int32))), (.int (nar .char (115 : Int32))), (.int (nar .char (116 : Int32))), (.int (nar .char (97 : Int32))), (.int (nar .char (108 : Int32))), (.int (nar .char (108 : Int32))), (.int (nar .char (109 : Int32))), (.int (nar .char (101 : Int32))), (.int (0 : Int32)), (.int (0 : Int32))] (.int (0 : Int32)) := Arv.set Ar10 qr10 Sr10 Mr10 Hr10 Ur10 (fits_nar_char _) Wr10 8 rfl (Nat.le_of_ble_eq_true rfl)
                    have Zr10 : n0 ≤ hr10.size := Nat.le_trans Zr9 (Keep.of_wr Wr10).1
                    obtain ⟨Lpr10, Xr10, Nr10⟩ := own_pack Xr10 Nr10
                    have Or10 := Or9.wr Wr10 g_br1
                    have Gr10 := Gr9.wr Wr10 (Safe.arr hZ.alike Ar10 (by decide))
                    obtain ⟨cr11, Ar11, qr11, Sr11, Mr11, Hr11, Ur11⟩ := id Vr10
                    obtain ⟨Tr11, hr11, Xr11, er11, Wr11, str11⟩ := stC Xr10 hx hZ er10 Ar11 (j := (9 : Int32)) (inb_of Sr11 ⟨(by decide : ¬ ((9 : Int32) < (0 : Int32))), (by decide : (9 : Int32) < (11 : Int32))⟩) (g := (mkF m 569 #[.val (.int p0), .val (.int p1), .val (.int p2), .val (.int p3), .val (.int ((p2 &&& (255 : Int32)).toUInt32.toUInt16.toUInt32.toInt32)), .val (.int ((p3 &&& (255 : Int32)).toUInt32.toUInt16.toUInt32.toInt32)), .val (.int (f_first (p1 &&& (1 : Int32)))), .val (.int ((p0 &&& (2147483647 : Int32)) % (10 : Int32))), .unset, .unset] [(.int (110 : Int32)), (.int (9 : Int32)), (.ref br1), (.ref br1)])) rfl rfl (hb hby at_569)
                    have Nr11 := Fr.snoc Xr11 Nr10 g_br1
                    have Vr11 : Arv Z hr11 br1 kr1 .char (11 : Int32) [(.int (nar .char (105 : Int32))), (.int (nar .char (110 : Int32))), (.int (nar .char (115 : Int32))), (.int (nar .char (116 : Int32))), (.int (nar .char (97 : Int32))), (.int (nar .char (108 : Int32))), (.int (nar .char (108 : Int32))), (.int (nar .char (109 : Int32))), (.int (nar .char (101 : Int32))), (.int (nar .char (110 : Int32))), (.int (0 : Int32))] (.int (0 : Int32)) := Arv.set Ar11 qr11 Sr11 Mr11 Hr11 Ur11 (fits_nar_char _) Wr11 9 rfl (Nat.le_of_ble_eq_true rfl)
                    have Zr11 : n0 ≤ hr11.size := Nat.le_trans Zr10 (Keep.of_wr Wr11).1
                    obtain ⟨Lpr11, Xr11, Nr11⟩ := own_pack Xr11 Nr11
                    have Or11 := Or10.wr Wr11 g_br1
                    have Gr11 := Gr10.wr Wr11 (Safe.arr hZ.alike Ar11 (by decide))
                    obtain ⟨cr12, Ar12, qr12, Sr12, Mr12, Hr12, Ur12⟩ := id Vr11
                    obtain ⟨Tr12, hr12, Xr12, er12, Wr12, str12⟩ := stC Xr11 hx hZ er11 Ar12 (j := (10 : Int32)) (inb_of Sr12 ⟨(by decide : ¬ ((10 : Int32) < (0 : Int32))), (by decide : (10 : Int32) < (11 : Int32))⟩) (g := (mkF m 575 #[.val (.int p0), .val (.int p1), .val (.int p2), .val (.int p3), .val (.int ((p2 &&& (255 : Int32)).toUInt32.toUInt16.toUInt32.toInt32)), .val (.int ((p3 &&& (255 : Int32)).toUInt32.toUInt16.toUInt32.toInt32)), .val (.int (f_first (p1 &&& (1 : Int32)))), .val (.int ((p0 &&& (2147483647 : Int32)) % (10 : Int32))), .unset, .unset] [(.int (116 : Int32)), (.int (10 : Int32)), (.ref br1), (.ref br1)])) rfl rfl (hb hby at_575)
                    have Nr12 := Fr.snoc Xr12 Nr11 g_br1
                    have Vr12 : Arv Z hr12 br1 kr1 .char (11 : Int32) [(.int (nar .char (105 : Int32))), (.int (nar .char (110 : Int32))), (.int (nar .char (115 : Int32))), (.int (nar .char (116 : Int32))), (.int (nar .char (97 : Int32))), (.int (nar .char (108 : Int32))), (.int (nar .char (108 : Int32))), (.int (nar .char (109 : Int32))), (.int (nar .char (101 : Int32))), (.int (nar .char (110 : Int32))), (.int (nar .char (116 : Int32)))] (.int (0 : Int32)) := Arv.set Ar12 qr12 Sr12 Mr12 Hr12 Ur12 (fits_nar_char _) Wr12 10 rfl (Nat.le_of_ble_eq_true rfl)
                    have Zr12 : n0 ≤ hr12.size := Nat.le_trans Zr11 (Keep.of_wr Wr12).1
                    obtain ⟨Lpr12, Xr12, Nr12⟩ := own_pack Xr12 Nr12
                    have Or12 := Or11.wr Wr12 g_br1
                    have Gr12 := Gr11.wr Wr12 (Safe.arr hZ.alike Ar12 (by decide))
                    have hp : ∀ c ∈ ([(nar .char (105 : Int32)), (nar .char (110 : Int32)), (nar .char (115 : Int32)), (nar .char (116 : Int32)), (nar .char (97 : Int32)), (nar .char (108 : Int32)), (nar .char (108 : Int32)), (nar .char (109 : Int32)), (nar .char (101 : Int32)), (nar .char (110 : Int32)), (nar .char (116 : Int32))] : List Int32), ¬ c < 0 ∧ ¬ (255 : Int32) < c := by
                      intro c hc
                      simp only [List.mem_cons, List.not_mem_nil, or_false] at hc
                      rcases hc with rfl | rfl | rfl | rfl | rfl | rfl | rfl | rfl | rfl | rfl | rfl
                      · exact by decide
                      · exact by decide
                      · exact by decide
                      · exact by decide
                      · exact by decide
                      · exact by decide
                      · exact by decide
                      · exact by decide
                      · exact by decide
                      · exact by decide
                      · exact by decide
                    obtain ⟨cs, hl, hp, Vcs⟩ : ∃ cs : List Int32, cs.length = 11 ∧ (∀ c ∈ cs, ¬ c < 0 ∧ ¬ (255 : Int32) < c) ∧ Arv Z hr12 br1 kr1 .char (11 : Int32) (cs.map Value.int) (.int (0 : Int32)) := ⟨([(nar .char (105 : Int32)), (nar .char (110 : Int32)), (nar .char (115 : Int32)), (nar .char (116 : Int32)), (nar .char (97 : Int32)), (nar .char (108 : Int32)), (nar .char (108 : Int32)), (nar .char (109 : Int32)), (nar .char (101 : Int32)), (nar .char (110 : Int32)), (nar .char (116 : Int32))] : List Int32), rfl, hp, Vr12⟩
                    obtain ⟨Tr13, hr13, Xr13, er13, Er13, Ar13, Dr13, -, str13⟩ := newO Xr12 hx hZ hown (hw _ (List.mem_of_getElem? (i := 38) rfl)) (hw _ (List.mem_of_getElem? (i := 3) rfl)) (hw _ (List.mem_of_getElem? (i := 2) rfl)) er12 (g := (mkF m 578 #[.val (.int p0), .val (.int p1), .val (.int p2), .val (.int p3), .val (.int ((p2 &&& (255 : Int32)).toUInt32.toUInt16.toUInt32.toInt32)), .val (.int ((p3 &&& (255 : Int32)).toUInt32.toUInt16.toUInt32.toInt32)), .val (.int (f_first (p1 &&& (1 : Int32)))), .val (.int ((p0 &&& (2147483647 : Int32)) % (10 : Int32))), .unset, .val (.ref br1)] [])) rfl (hb hby at_578) (by decide) (by decide)
                    obtain ⟨br13, gr13⟩ : ∃ z, z = hr12.size := ⟨_, rfl⟩
                    rw [← gr13] at Ar13 Dr13 str13
                    have Fvr13 : Fld Z hr13 br13 "java/lang/String" "value" "[B" .null := Dr13 (Or.inr (hw _ (List.mem_of_getElem? (i := 5) rfl))) (ty := (.array .byte)) (by decide)
                    have Fcr13 : Fld Z hr13 br13 "java/lang/String" "coder" "B" (.int (0 : Int32)) := Dr13 (Or.inr (hw _ (List.mem_of_getElem? (i := 6) rfl))) (ty := .byte) (by decide)
                    have g_br13 : n0 ≤ br13 := Nat.le_trans Zr12 (Nat.le_of_eq gr13.symm)
                    have Zr13 : n0 ≤ hr13.size := Nat.le_trans Zr12 Er13.1
                    have Or13 := Or12.ext Er13
                    have Sfr13 := Safe.ext Er13 Gr12 (Safe.new (Nat.le_of_eq gr13.symm))
                    have Gr13 := Gr12.ext Er13
                    obtain ⟨_, _, ⟨Tr14, Lr14, kr14, nr14⟩, -, Xr14, ⟨Lcr14, hQr14, lr14, yr14, zr14⟩, str14⟩ := Xr13.specialBack hx (y := (⟨"java/lang/String", "<init>", "([C)V"⟩ : MethodName)) rfl hown (mvT hZ (hw _ (List.mem_of_getElem? (i := 39) rfl))) (mvT hZ (hw _ (List.mem_of_getElem? (i := 40) rfl))) (mvT hZ (hw _ (List.mem_of_getElem? (i := 41) rfl))) (by decide) (StrChars.Road.backV (W := 1) hZ hws (kI := 4) (hw _ (List.mem_of_getElem? (i := 3) rfl)) (cs := cs) (bs := (cs.map (fun c => c.toInt8.toInt32))) (n := 11) g_br13 Zr13 Ar13 Fvr13 Fcr13 (Vcs.ext Er13) (S_C.ext (own_oldE hZh Or13)) hC hl rfl (by decide) (by decide) hp rfl (by decide) (by decide)) (g := (mkF m 584 #[.val (.int p0), .val (.int p1), .val (.int p2), .val (.int p3), .val (.int ((p2 &&& (255 : Int32)).toUInt32.toUInt16.toUInt32.toInt32)), .val (.int ((p3 &&& (255 : Int32)).toUInt32.toUInt16.toUInt32.toInt32)), .val (.int (f_first (p1 &&& (1 : Int32)))), .val (.int ((p0 &&& (2147483647 : Int32)) % (10 : Int32))), .unset, .val (.ref br1)] [(.ref br1), (.ref br13), (.ref br13)])) rfl (by rw [hml]; rfl) (Steps.refl _) (a := br13) (argsL := [(.ref br1)]) (rest := [(.ref br13)]) (lenOf pd_law_2 rfl) rfl (by show 2 * 0 + _ ≤ _; exact Nat.le_of_eq rfl) (hb hby at_584) (fun _ _ => ⟨rfl, er13, (by decide : 2 + 1 ≤ _), (by decide : 15 + 11 ≤ _)⟩)
                    dsimp only [Pt.U, Pt.locs, Pt.cells, Pt.slots] at Xr14 lr14 yr14 zr14 str14 hQr14
                    subst lr14 yr14 zr14
                    obtain ⟨rfl, Nr14q, Kr14, EN, CN, tN, kN, u1, u2, u3, VN, KN⟩ := hQr14
                    have Nr14 := Fr.app Nr12 Nr14q
                    obtain ⟨Lpr14, Xr14, Nr14⟩ := own_pack Xr14 Nr14
                    have Or14 := Or13.keep Kr14 (allS g_br13 all0)
                    have Zr14 : n0 ≤ Tr14.heap.size := Nat.le_trans Zr13 Kr14.1
                    have Gr14 := Gr13.keep Kr14 (allS Sfr13 all0)
                    have hlb : (cs.map (fun c => c.toInt8.toInt32)).length = 11 := by rw [List.length_map]; exact hl
                    have KN' : Arv Z Tr14.heap tN kN .byte (Int32.ofNat (cs.map (fun c => c.toInt8.toInt32)).length) ((cs.map (fun c => c.toInt8.toInt32)).map Value.int) (.int (0 : Int32)) := by rw [hlb]; exact KN
                    have OE := own_oldE hZh Or14
                    have S_C' := S_C.ext OE
                    have S_L' := S_L.ext OE
                    have S_I' := S_I.ext OE
                    have W_L' := W_L.ext OE
                    have W_I' := W_I.ext OE
                    obtain ⟨t, hst, hrun, hended, L, NL, hEnd⟩ := own_end (s := s) (vm0 := s.vm) (.val (.int p0)) (.val (.int p1)) (.val (.int p2)) (.val (.int p3)) (.val (.int ((p2 &&& (255 : Int32)).toUInt32.toUInt16.toUInt32.toInt32))) (.val (.int ((p3 &&& (255 : Int32)).toUInt32.toUInt16.toUInt32.toInt32))) (.val (.int (f_first (p1 &&& (1 : Int32))))) (.val (.int ((p0 &&& (2147483647 : Int32)) % (10 : Int32)))) (.val (.ref br1)) (One.val rfl) br13 tN kN (cs.map (fun c => c.toInt8.toInt32)) wL wI iC (Xr14.more (by decide) (by decide)) hx Bd.returns Bd.notSynchronized hZ hw hby hml hown rfl hS0 (Nat.le_trans (Nat.le_of_eq hn0.symm) Zr14) Nr14 Zr14 wStr hEW Gr14 S_L' S_I' W_L' W_I' S_C' hC (by rw [hlb]; decide) EN CN VN KN'
                    refine ⟨t, _, pre0 _ ?_, hrun, hended, _, L, rfl, ⟨rfl, NL⟩, hEnd⟩
                    show Steps p.tables e below (s₁.setTop (mkF m 0 #[.val (.int p0), .val (.int p1), .val (.int p2), .val (.int p3), .unset, .unset, .unset, .unset, .unset, .unset] [])) _
                    refine XS.iloadN X0.here hx rfl (hb hby at_0) rfl ?_
                    show Steps p.tables e below (s₁.setTop (mkF m 1 #[.val (.int p0), .val (.int p1), .val (.int p2), .val (.int p3), .unset, .unset, .unset, .unset, .unset, .unset] [(.int p2)])) _
                    refine XS.sipush X0.here hx rfl (hb hby at_1) ?_
                    show Steps p.tables e below (s₁.setTop (mkF m 4 #[.val (.int p0), .val (.int p1), .val (.int p2), .val (.int p3), .unset, .unset, .unset, .unset, .unset, .unset] [(.int (255 : Int32)), (.int p2)])) _
                    refine XS.iand X0.here hx rfl (hb hby at_4) rfl ?_
                    show Steps p.tables e below (s₁.setTop (mkF m 5 #[.val (.int p0), .val (.int p1), .val (.int p2), .val (.int p3), .unset, .unset, .unset, .unset, .unset, .unset] [(.int (p2 &&& (255 : Int32)))])) _
                    refine XS.i2c X0.here hx rfl (hb hby at_5) rfl ?_
                    show Steps p.tables e below (s₁.setTop (mkF m 6 #[.val (.int p0), .val (.int p1), .val (.int p2), .val (.int p3), .unset, .unset, .unset, .unset, .unset, .unset] [(.int ((p2 &&& (255 : Int32)).toUInt32.toUInt16.toUInt32.toInt32))])) _
                    refine XS.istore X0.here hx rfl (hb hby at_6) rfl (l' := #[.val (.int p0), .val (.int p1), .val (.int p2), .val (.int p3), .val (.int ((p2 &&& (255 : Int32)).toUInt32.toUInt16.toUInt32.toInt32)), .unset, .unset, .unset, .unset, .unset]) rfl ?_
                    show Steps p.tables e below (s₁.setTop (mkF m 8 #[.val (.int p0), .val (.int p1), .val (.int p2), .val (.int p3), .val (.int ((p2 &&& (255 : Int32)).toUInt32.toUInt16.toUInt32.toInt32)), .unset, .unset, .unset, .unset, .unset] [])) _
                    refine XS.iloadN X0.here hx rfl (hb hby at_8) rfl ?_
                    show Steps p.tables e below (s₁.setTop (mkF m 9 #[.val (.int p0), .val (.int p1), .val (.int p2), .val (.int p3), .val (.int ((p2 &&& (255 : Int32)).toUInt32.toUInt16.toUInt32.toInt32)), .unset, .unset, .unset, .unset, .unset] [(.int p3)])) _
                    refine XS.sipush X0.here hx rfl (hb hby at_9) ?_
                    show Steps p.tables e below (s₁.setTop (mkF m 12 #[.val (.int p0), .val (.int p1), .val (.int p2), .val (.int p3), .val (.int ((p2 &&& (255 : Int32)).toUInt32.toUInt16.toUInt32.toInt32)), .unset, .unset, .unset, .unset, .unset] [(.int (255 : Int32)), (.int p3)])) _
                    refine XS.iand X0.here hx rfl (hb hby at_12) rfl ?_
                    show Steps p.tables e below (s₁.setTop (mkF m 13 #[.val (.int p0), .val (.int p1), .val (.int p2), .val (.int p3), .val (.int ((p2 &&& (255 : Int32)).toUInt32.toUInt16.toUInt32.toInt32)), .unset, .unset, .unset, .unset, .unset] [(.int (p3 &&& (255 : Int32)))])) _
                    refine XS.i2c X0.here hx rfl (hb hby at_13) rfl ?_
                    show Steps p.tables e below (s₁.setTop (mkF m 14 #[.val (.int p0), .val (.int p1), .val (.int p2), .val (.int p3), .val (.int ((p2 &&& (255 : Int32)).toUInt32.toUInt16.toUInt32.toInt32)), .unset, .unset, .unset, .unset, .unset] [(.int ((p3 &&& (255 : Int32)).toUInt32.toUInt16.toUInt32.toInt32))])) _
                    refine XS.istore X0.here hx rfl (hb hby at_14) rfl (l' := #[.val (.int p0), .val (.int p1), .val (.int p2), .val (.int p3), .val (.int ((p2 &&& (255 : Int32)).toUInt32.toUInt16.toUInt32.toInt32)), .val (.int ((p3 &&& (255 : Int32)).toUInt32.toUInt16.toUInt32.toInt32)), .unset, .unset, .unset, .unset]) rfl ?_
                    show Steps p.tables e below (s₁.setTop (mkF m 16 #[.val (.int p0), .val (.int p1), .val (.int p2), .val (.int p3), .val (.int ((p2 &&& (255 : Int32)).toUInt32.toUInt16.toUInt32.toInt32)), .val (.int ((p3 &&& (255 : Int32)).toUInt32.toUInt16.toUInt32.toInt32)), .unset, .unset, .unset, .unset] [])) _
                    refine XS.iloadN X0.here hx rfl (hb hby at_16) rfl ?_
                    show Steps p.tables e below (s₁.setTop (mkF m 17 #[.val (.int p0), .val (.int p1), .val (.int p2), .val (.int p3), .val (.int ((p2 &&& (255 : Int32)).toUInt32.toUInt16.toUInt32.toInt32)), .val (.int ((p3 &&& (255 : Int32)).toUInt32.toUInt16.toUInt32.toInt32)), .unset, .unset, .unset, .unset] [(.int p1)])) _
                    refine XS.iconst X0.here hx rfl (hb hby at_17) ?_
                    show Steps p.tables e below (s₁.setTop (mkF m 18 #[.val (.int p0), .val (.int p1), .val (.int p2), .val (.int p3), .val (.int ((p2 &&& (255 : Int32)).toUInt32.toUInt16.toUInt32.toInt32)), .val (.int ((p3 &&& (255 : Int32)).toUInt32.toUInt16.toUInt32.toInt32)), .unset, .unset, .unset, .unset] [(.int (1 : Int32)), (.int p1)])) _
                    refine XS.iand X0.here hx rfl (hb hby at_18) rfl ?_
                    have key : Steps p.tables e below (s₁.setTop (mkF m 27 #[.val (.int p0), .val (.int p1), .val (.int p2), .val (.int p3), .val (.int ((p2 &&& (255 : Int32)).toUInt32.toUInt16.toUInt32.toInt32)), .val (.int ((p3 &&& (255 : Int32)).toUInt32.toUInt16.toUInt32.toInt32)), .unset, .unset, .unset, .unset] [(.int (f_first (p1 &&& (1 : Int32))))])) t := by
                      show Steps p.tables e below (s₁.setTop (mkF m 27 #[.val (.int p0), .val (.int p1), .val (.int p2), .val (.int p3), .val (.int ((p2 &&& (255 : Int32)).toUInt32.toUInt16.toUInt32.toInt32)), .val (.int ((p3 &&& (255 : Int32)).toUInt32.toUInt16.toUInt32.toInt32)), .unset, .unset, .unset, .unset] [(.int (f_first (p1 &&& (1 : Int32))))])) _
                      refine XS.istore X0.here hx rfl (hb hby at_27) rfl (l' := #[.val (.int p0), .val (.int p1), .val (.int p2), .val (.int p3), .val (.int ((p2 &&& (255 : Int32)).toUInt32.toUInt16.toUInt32.toInt32)), .val (.int ((p3 &&& (255 : Int32)).toUInt32.toUInt16.toUInt32.toInt32)), .val (.int (f_first (p1 &&& (1 : Int32)))), .unset, .unset, .unset]) rfl ?_
                      show Steps p.tables e below (s₁.setTop (mkF m 29 #[.val (.int p0), .val (.int p1), .val (.int p2), .val (.int p3), .val (.int ((p2 &&& (255 : Int32)).toUInt32.toUInt16.toUInt32.toInt32)), .val (.int ((p3 &&& (255 : Int32)).toUInt32.toUInt16.toUInt32.toInt32)), .val (.int (f_first (p1 &&& (1 : Int32)))), .unset, .unset, .unset] [])) _
                      refine XS.iloadN X0.here hx rfl (hb hby at_29) rfl ?_
                      show Steps p.tables e below (s₁.setTop (mkF m 30 #[.val (.int p0), .val (.int p1), .val (.int p2), .val (.int p3), .val (.int ((p2 &&& (255 : Int32)).toUInt32.toUInt16.toUInt32.toInt32)), .val (.int ((p3 &&& (255 : Int32)).toUInt32.toUInt16.toUInt32.toInt32)), .val (.int (f_first (p1 &&& (1 : Int32)))), .unset, .unset, .unset] [(.int p0)])) _
                      refine X0.ldcInt hx hown (mvT hZ (hw _ (List.mem_of_getElem? (i := 0) rfl))) (g := (mkF m 30 #[.val (.int p0), .val (.int p1), .val (.int p2), .val (.int p3), .val (.int ((p2 &&& (255 : Int32)).toUInt32.toUInt16.toUInt32.toInt32)), .val (.int ((p3 &&& (255 : Int32)).toUInt32.toUInt16.toUInt32.toInt32)), .val (.int (f_first (p1 &&& (1 : Int32)))), .unset, .unset, .unset] [(.int p0)])) rfl (hb hby at_30) _ ?_
                      show Steps p.tables e below (s₁.setTop (mkF m 32 #[.val (.int p0), .val (.int p1), .val (.int p2), .val (.int p3), .val (.int ((p2 &&& (255 : Int32)).toUInt32.toUInt16.toUInt32.toInt32)), .val (.int ((p3 &&& (255 : Int32)).toUInt32.toUInt16.toUInt32.toInt32)), .val (.int (f_first (p1 &&& (1 : Int32)))), .unset, .unset, .unset] [(.int (2147483647 : Int32)), (.int p0)])) _
                      refine XS.iand X0.here hx rfl (hb hby at_32) rfl ?_
                      show Steps p.tables e below (s₁.setTop (mkF m 33 #[.val (.int p0), .val (.int p1), .val (.int p2), .val (.int p3), .val (.int ((p2 &&& (255 : Int32)).toUInt32.toUInt16.toUInt32.toInt32)), .val (.int ((p3 &&& (255 : Int32)).toUInt32.toUInt16.toUInt32.toInt32)), .val (.int (f_first (p1 &&& (1 : Int32)))), .unset, .unset, .unset] [(.int (p0 &&& (2147483647 : Int32)))])) _
                      refine XS.bipush X0.here hx rfl (hb hby at_33) ?_
                      show Steps p.tables e below (s₁.setTop (mkF m 35 #[.val (.int p0), .val (.int p1), .val (.int p2), .val (.int p3), .val (.int ((p2 &&& (255 : Int32)).toUInt32.toUInt16.toUInt32.toInt32)), .val (.int ((p3 &&& (255 : Int32)).toUInt32.toUInt16.toUInt32.toInt32)), .val (.int (f_first (p1 &&& (1 : Int32)))), .unset, .unset, .unset] [(.int (10 : Int32)), (.int (p0 &&& (2147483647 : Int32)))])) _
                      refine Jvm.RoadKit.iremM X0 hx rfl (hb hby at_35) rfl (by decide) ?_
                      show Steps p.tables e below (s₁.setTop (mkF m 36 #[.val (.int p0), .val (.int p1), .val (.int p2), .val (.int p3), .val (.int ((p2 &&& (255 : Int32)).toUInt32.toUInt16.toUInt32.toInt32)), .val (.int ((p3 &&& (255 : Int32)).toUInt32.toUInt16.toUInt32.toInt32)), .val (.int (f_first (p1 &&& (1 : Int32)))), .unset, .unset, .unset] [(.int ((p0 &&& (2147483647 : Int32)) % (10 : Int32)))])) _
                      refine XS.istore X0.here hx rfl (hb hby at_36) rfl (l' := #[.val (.int p0), .val (.int p1), .val (.int p2), .val (.int p3), .val (.int ((p2 &&& (255 : Int32)).toUInt32.toUInt16.toUInt32.toInt32)), .val (.int ((p3 &&& (255 : Int32)).toUInt32.toUInt16.toUInt32.toInt32)), .val (.int (f_first (p1 &&& (1 : Int32)))), .val (.int ((p0 &&& (2147483647 : Int32)) % (10 : Int32))), .unset, .unset]) rfl ?_
                      show Steps p.tables e below (s₁.setTop (mkF m 38 #[.val (.int p0), .val (.int p1), .val (.int p2), .val (.int p3), .val (.int ((p2 &&& (255 : Int32)).toUInt32.toUInt16.toUInt32.toInt32)), .val (.int ((p3 &&& (255 : Int32)).toUInt32.toUInt16.toUInt32.toInt32)), .val (.int (f_first (p1 &&& (1 : Int32)))), .val (.int ((p0 &&& (2147483647 : Int32)) % (10 : Int32))), .unset, .unset] [])) _
                      refine XS.iload X0.here hx rfl (hb hby at_38) rfl ?_
                      show Steps p.tables e below (s₁.setTop (mkF m 40 #[.val (.int p0), .val (.int p1), .val (.int p2), .val (.int p3), .val (.int ((p2 &&& (255 : Int32)).toUInt32.toUInt16.toUInt32.toInt32)), .val (.int ((p3 &&& (255 : Int32)).toUInt32.toUInt16.toUInt32.toInt32)), .val (.int (f_first (p1 &&& (1 : Int32)))), .val (.int ((p0 &&& (2147483647 : Int32)) % (10 : Int32))), .unset, .unset] [(.int ((p0 &&& (2147483647 : Int32)) % (10 : Int32)))])) _
                      refine XS.ifYes X0.here hx rfl (pc0 := 40) (pc' := 50) rfl (hb hby at_40) rfl ((if0 _ _).trans (feq hcase0).2) (by decide) (by decide) ?_
                      show Steps p.tables e below (s₁.setTop (mkF m 50 #[.val (.int p0), .val (.int p1), .val (.int p2), .val (.int p3), .val (.int ((p2 &&& (255 : Int32)).toUInt32.toUInt16.toUInt32.toInt32)), .val (.int ((p3 &&& (255 : Int32)).toUInt32.toUInt16.toUInt32.toInt32)), .val (.int (f_first (p1 &&& (1 : Int32)))), .val (.int ((p0 &&& (2147483647 : Int32)) % (10 : Int32))), .unset, .unset] [])) _
                      refine XS.iload X0.here hx rfl (hb hby at_50) rfl ?_
                      show Steps p.tables e below (s₁.setTop (mkF m 52 #[.val (.int p0), .val (.int p1), .val (.int p2), .val (.int p3), .val (.int ((p2 &&& (255 : Int32)).toUInt32.toUInt16.toUInt32.toInt32)), .val (.int ((p3 &&& (255 : Int32)).toUInt32.toUInt16.toUInt32.toInt32)), .val (.int (f_first (p1 &&& (1 : Int32)))), .val (.int ((p0 &&& (2147483647 : Int32)) % (10 : Int32))), .unset, .unset] [(.int ((p0 &&& (2147483647 : Int32)) % (10 : Int32)))])) _
                      refine XS.iconst X0.here hx rfl (hb hby at_52) ?_
                      show Steps p.tables e below (s₁.setTop (mkF m 53 #[.val (.int p0), .val (.int p1), .val (.int p2), .val (.int p3), .val (.int ((p2 &&& (255 : Int32)).toUInt32.toUInt16.toUInt32.toInt32)), .val (.int ((p3 &&& (255 : Int32)).toUInt32.toUInt16.toUInt32.toInt32)), .val (.int (f_first (p1 &&& (1 : Int32)))), .val (.int ((p0 &&& (2147483647 : Int32)) % (10 : Int32))), .unset, .unset] [(.int (1 : Int32)), (.int ((p0 &&& (2147483647 : Int32)) % (10 : Int32)))])) _
                      refine XS.icmpYes X0.here hx rfl (pc0 := 53) (pc' := 63) rfl (hb hby at_53) rfl (feq hcase1).2 (by decide) (by decide) ?_
                      show Steps p.tables e below (s₁.setTop (mkF m 63 #[.val (.int p0), .val (.int p1), .val (.int p2), .val (.int p3), .val (.int ((p2 &&& (255 : Int32)).toUInt32.toUInt16.toUInt32.toInt32)), .val (.int ((p3 &&& (255 : Int32)).toUInt32.toUInt16.toUInt32.toInt32)), .val (.int (f_first (p1 &&& (1 : Int32)))), .val (.int ((p0 &&& (2147483647 : Int32)) % (10 : Int32))), .unset, .unset] [])) _
                      refine XS.iload X0.here hx rfl (hb hby at_63) rfl ?_
                      show Steps p.tables e below (s₁.setTop (mkF m 65 #[.val (.int p0), .val (.int p1), .val (.int p2), .val (.int p3), .val (.int ((p2 &&& (255 : Int32)).toUInt32.toUInt16.toUInt32.toInt32)), .val (.int ((p3 &&& (255 : Int32)).toUInt32.toUInt16.toUInt32.toInt32)), .val (.int (f_first (p1 &&& (1 : Int32)))), .val (.int ((p0 &&& (2147483647 : Int32)) % (10 : Int32))), .unset, .unset] [(.int ((p0 &&& (2147483647 : Int32)) % (10 : Int32)))])) _
                      refine XS.iconst X0.here hx rfl (hb hby at_65) ?_
                      show Steps p.tables e below (s₁.setTop (mkF m 66 #[.val (.int p0), .val (.int p1), .val (.int p2), .val (.int p3), .val (.int ((p2 &&& (255 : Int32)).toUInt32.toUInt16.toUInt32.toInt32)), .val (.int ((p3 &&& (255 : Int32)).toUInt32.toUInt16.toUInt32.toInt32)), .val (.int (f_first (p1 &&& (1 : Int32)))), .val (.int ((p0 &&& (2147483647 : Int32)) % (10 : Int32))), .unset, .unset] [(.int (2 : Int32)), (.int ((p0 &&& (2147483647 : Int32)) % (10 : Int32)))])) _
                      refine XS.icmpYes X0.here hx rfl (pc0 := 66) (pc' := 76) rfl (hb hby at_66) rfl (feq hcase2).2 (by decide) (by decide) ?_
                      show Steps p.tables e below (s₁.setTop (mkF m 76 #[.val (.int p0), .val (.int p1), .val (.int p2), .val (.int p3), .val (.int ((p2 &&& (255 : Int32)).toUInt32.toUInt16.toUInt32.toInt32)), .val (.int ((p3 &&& (255 : Int32)).toUInt32.toUInt16.toUInt32.toInt32)), .val (.int (f_first (p1 &&& (1 : Int32)))), .val (.int ((p0 &&& (2147483647 : Int32)) % (10 : Int32))), .unset, .unset] [])) _
                      refine XS.iload X0.here hx rfl (hb hby at_76) rfl ?_
                      show Steps p.tables e below (s₁.setTop (mkF m 78 #[.val (.int p0), .val (.int p1), .val (.int p2), .val (.int p3), .val (.int ((p2 &&& (255 : Int32)).toUInt32.toUInt16.toUInt32.toInt32)), .val (.int ((p3 &&& (255 : Int32)).toUInt32.toUInt16.toUInt32.toInt32)), .val (.int (f_first (p1 &&& (1 : Int32)))), .val (.int ((p0 &&& (2147483647 : Int32)) % (10 : Int32))), .unset, .unset] [(.int ((p0 &&& (2147483647 : Int32)) % (10 : Int32)))])) _
                      refine XS.iconst X0.here hx rfl (hb hby at_78) ?_
                      show Steps p.tables e below (s₁.setTop (mkF m 79 #[.val (.int p0), .val (.int p1), .val (.int p2), .val (.int p3), .val (.int ((p2 &&& (255 : Int32)).toUInt32.toUInt16.toUInt32.toInt32)), .val (.int ((p3 &&& (255 : Int32)).toUInt32.toUInt16.toUInt32.toInt32)), .val (.int (f_first (p1 &&& (1 : Int32)))), .val (.int ((p0 &&& (2147483647 : Int32)) % (10 : Int32))), .unset, .unset] [(.int (3 : Int32)), (.int ((p0 &&& (2147483647 : Int32)) % (10 : Int32)))])) _
                      refine XS.icmpYes X0.here hx rfl (pc0 := 79) (pc' := 88) rfl (hb hby at_79) rfl (feq hcase3).2 (by decide) (by decide) ?_
                      show Steps p.tables e below (s₁.setTop (mkF m 88 #[.val (.int p0), .val (.int p1), .val (.int p2), .val (.int p3), .val (.int ((p2 &&& (255 : Int32)).toUInt32.toUInt16.toUInt32.toInt32)), .val (.int ((p3 &&& (255 : Int32)).toUInt32.toUInt16.toUInt32.toInt32)), .val (.int (f_first (p1 &&& (1 : Int32)))), .val (.int ((p0 &&& (2147483647 : Int32)) % (10 : Int32))), .unset, .unset] [])) _
                      refine XS.iload X0.here hx rfl (hb hby at_88) rfl ?_
                      show Steps p.tables e below (s₁.setTop (mkF m 90 #[.val (.int p0), .val (.int p1), .val (.int p2), .val (.int p3), .val (.int ((p2 &&& (255 : Int32)).toUInt32.toUInt16.toUInt32.toInt32)), .val (.int ((p3 &&& (255 : Int32)).toUInt32.toUInt16.toUInt32.toInt32)), .val (.int (f_first (p1 &&& (1 : Int32)))), .val (.int ((p0 &&& (2147483647 : Int32)) % (10 : Int32))), .unset, .unset] [(.int ((p0 &&& (2147483647 : Int32)) % (10 : Int32)))])) _
                      refine XS.iconst X0.here hx rfl (hb hby at_90) ?_
                      show Steps p.tables e below (s₁.setTop (mkF m 91 #[.val (.int p0), .val (.int p1), .val (.int p2), .val (.int p3), .val (.int ((p2 &&& (255 : Int32)).toUInt32.toUInt16.toUInt32.toInt32)), .val (.int ((p3 &&& (255 : Int32)).toUInt32.toUInt16.toUInt32.toInt32)), .val (.int (f_first (p1 &&& (1 : Int32)))), .val (.int ((p0 &&& (2147483647 : Int32)) % (10 : Int32))), .unset, .unset] [(.int (4 : Int32)), (.int ((p0 &&& (2147483647 : Int32)) % (10 : Int32)))])) _
                      refine XS.icmpYes X0.here hx rfl (pc0 := 91) (pc' := 168) rfl (hb hby at_91) rfl (feq hcase4).2 (by decide) (by decide) ?_
                      show Steps p.tables e below (s₁.setTop (mkF m 168 #[.val (.int p0), .val (.int p1), .val (.int p2), .val (.int p3), .val (.int ((p2 &&& (255 : Int32)).toUInt32.toUInt16.toUInt32.toInt32)), .val (.int ((p3 &&& (255 : Int32)).toUInt32.toUInt16.toUInt32.toInt32)), .val (.int (f_first (p1 &&& (1 : Int32)))), .val (.int ((p0 &&& (2147483647 : Int32)) % (10 : Int32))), .unset, .unset] [])) _
                      refine XS.iload X0.here hx rfl (hb hby at_168) rfl ?_
                      show Steps p.tables e below (s₁.setTop (mkF m 170 #[.val (.int p0), .val (.int p1), .val (.int p2), .val (.int p3), .val (.int ((p2 &&& (255 : Int32)).toUInt32.toUInt16.toUInt32.toInt32)), .val (.int ((p3 &&& (255 : Int32)).toUInt32.toUInt16.toUInt32.toInt32)), .val (.int (f_first (p1 &&& (1 : Int32)))), .val (.int ((p0 &&& (2147483647 : Int32)) % (10 : Int32))), .unset, .unset] [(.int ((p0 &&& (2147483647 : Int32)) % (10 : Int32)))])) _
                      refine XS.iconst X0.here hx rfl (hb hby at_170) ?_
                      show Steps p.tables e below (s₁.setTop (mkF m 171 #[.val (.int p0), .val (.int p1), .val (.int p2), .val (.int p3), .val (.int ((p2 &&& (255 : Int32)).toUInt32.toUInt16.toUInt32.toInt32)), .val (.int ((p3 &&& (255 : Int32)).toUInt32.toUInt16.toUInt32.toInt32)), .val (.int (f_first (p1 &&& (1 : Int32)))), .val (.int ((p0 &&& (2147483647 : Int32)) % (10 : Int32))), .unset, .unset] [(.int (5 : Int32)), (.int ((p0 &&& (2147483647 : Int32)) % (10 : Int32)))])) _
                      refine XS.icmpYes X0.here hx rfl (pc0 := 171) (pc' := 272) rfl (hb hby at_171) rfl (feq hcase5).2 (by decide) (by decide) ?_
                      show Steps p.tables e below (s₁.setTop (mkF m 272 #[.val (.int p0), .val (.int p1), .val (.int p2), .val (.int p3), .val (.int ((p2 &&& (255 : Int32)).toUInt32.toUInt16.toUInt32.toInt32)), .val (.int ((p3 &&& (255 : Int32)).toUInt32.toUInt16.toUInt32.toInt32)), .val (.int (f_first (p1 &&& (1 : Int32)))), .val (.int ((p0 &&& (2147483647 : Int32)) % (10 : Int32))), .unset, .unset] [])) _
                      refine XS.iload X0.here hx rfl (hb hby at_272) rfl ?_
                      show Steps p.tables e below (s₁.setTop (mkF m 274 #[.val (.int p0), .val (.int p1), .val (.int p2), .val (.int p3), .val (.int ((p2 &&& (255 : Int32)).toUInt32.toUInt16.toUInt32.toInt32)), .val (.int ((p3 &&& (255 : Int32)).toUInt32.toUInt16.toUInt32.toInt32)), .val (.int (f_first (p1 &&& (1 : Int32)))), .val (.int ((p0 &&& (2147483647 : Int32)) % (10 : Int32))), .unset, .unset] [(.int ((p0 &&& (2147483647 : Int32)) % (10 : Int32)))])) _
                      refine XS.bipush X0.here hx rfl (hb hby at_274) ?_
                      show Steps p.tables e below (s₁.setTop (mkF m 276 #[.val (.int p0), .val (.int p1), .val (.int p2), .val (.int p3), .val (.int ((p2 &&& (255 : Int32)).toUInt32.toUInt16.toUInt32.toInt32)), .val (.int ((p3 &&& (255 : Int32)).toUInt32.toUInt16.toUInt32.toInt32)), .val (.int (f_first (p1 &&& (1 : Int32)))), .val (.int ((p0 &&& (2147483647 : Int32)) % (10 : Int32))), .unset, .unset] [(.int (6 : Int32)), (.int ((p0 &&& (2147483647 : Int32)) % (10 : Int32)))])) _
                      refine XS.icmpYes X0.here hx rfl (pc0 := 276) (pc' := 444) rfl (hb hby at_276) rfl (feq hcase6).2 (by decide) (by decide) ?_
                      show Steps p.tables e below (s₁.setTop (mkF m 444 #[.val (.int p0), .val (.int p1), .val (.int p2), .val (.int p3), .val (.int ((p2 &&& (255 : Int32)).toUInt32.toUInt16.toUInt32.toInt32)), .val (.int ((p3 &&& (255 : Int32)).toUInt32.toUInt16.toUInt32.toInt32)), .val (.int (f_first (p1 &&& (1 : Int32)))), .val (.int ((p0 &&& (2147483647 : Int32)) % (10 : Int32))), .unset, .unset] [])) _
                      refine XS.iload X0.here hx rfl (hb hby at_444) rfl ?_
                      show Steps p.tables e below (s₁.setTop (mkF m 446 #[.val (.int p0), .val (.int p1), .val (.int p2), .val (.int p3), .val (.int ((p2 &&& (255 : Int32)).toUInt32.toUInt16.toUInt32.toInt32)), .val (.int ((p3 &&& (255 : Int32)).toUInt32.toUInt16.toUInt32.toInt32)), .val (.int (f_first (p1 &&& (1 : Int32)))), .val (.int ((p0 &&& (2147483647 : Int32)) % (10 : Int32))), .unset, .unset] [(.int ((p0 &&& (2147483647 : Int32)) % (10 : Int32)))])) _
                      refine XS.bipush X0.here hx rfl (hb hby at_446) ?_
                      show Steps p.tables e below (s₁.setTop (mkF m 448 #[.val (.int p0), .val (.int p1), .val (.int p2), .val (.int p3), .val (.int ((p2 &&& (255 : Int32)).toUInt32.toUInt16.toUInt32.toInt32)), .val (.int ((p3 &&& (255 : Int32)).toUInt32.toUInt16.toUInt32.toInt32)), .val (.int (f_first (p1 &&& (1 : Int32)))), .val (.int ((p0 &&& (2147483647 : Int32)) % (10 : Int32))), .unset, .unset] [(.int (7 : Int32)), (.int ((p0 &&& (2147483647 : Int32)) % (10 : Int32)))])) _
                      refine XS.icmpNo X0.here hx rfl (hb hby at_448) rfl (teq hcase7).2 ?_
                      show Steps p.tables e below (s₁.setTop (mkF m 451 #[.val (.int p0), .val (.int p1), .val (.int p2), .val (.int p3), .val (.int ((p2 &&& (255 : Int32)).toUInt32.toUInt16.toUInt32.toInt32)), .val (.int ((p3 &&& (255 : Int32)).toUInt32.toUInt16.toUInt32.toInt32)), .val (.int (f_first (p1 &&& (1 : Int32)))), .val (.int ((p0 &&& (2147483647 : Int32)) % (10 : Int32))), .unset, .unset] [])) _
                      refine XS.iload X0.here hx rfl (hb hby at_451) rfl ?_
                      show Steps p.tables e below (s₁.setTop (mkF m 453 #[.val (.int p0), .val (.int p1), .val (.int p2), .val (.int p3), .val (.int ((p2 &&& (255 : Int32)).toUInt32.toUInt16.toUInt32.toInt32)), .val (.int ((p3 &&& (255 : Int32)).toUInt32.toUInt16.toUInt32.toInt32)), .val (.int (f_first (p1 &&& (1 : Int32)))), .val (.int ((p0 &&& (2147483647 : Int32)) % (10 : Int32))), .unset, .unset] [(.int (f_first (p1 &&& (1 : Int32))))])) _
                      refine XS.ifYes X0.here hx rfl (pc0 := 453) (pc' := 512) rfl (hb hby at_453) rfl ((if0 _ _).trans (teq hff).1) (by decide) (by decide) ?_
                      show Steps p.tables e below (s₁.setTop (mkF m 512 #[.val (.int p0), .val (.int p1), .val (.int p2), .val (.int p3), .val (.int ((p2 &&& (255 : Int32)).toUInt32.toUInt16.toUInt32.toInt32)), .val (.int ((p3 &&& (255 : Int32)).toUInt32.toUInt16.toUInt32.toInt32)), .val (.int (f_first (p1 &&& (1 : Int32)))), .val (.int ((p0 &&& (2147483647 : Int32)) % (10 : Int32))), .unset, .unset] [])) _
                      refine XS.bipush X0.here hx rfl (hb hby at_512) ?_
                      show Steps p.tables e below (s₁.setTop (mkF m 514 #[.val (.int p0), .val (.int p1), .val (.int p2), .val (.int p3), .val (.int ((p2 &&& (255 : Int32)).toUInt32.toUInt16.toUInt32.toInt32)), .val (.int ((p3 &&& (255 : Int32)).toUInt32.toUInt16.toUInt32.toInt32)), .val (.int (f_first (p1 &&& (1 : Int32)))), .val (.int ((p0 &&& (2147483647 : Int32)) % (10 : Int32))), .unset, .unset] [(.int (11 : Int32))])) _
                      refine str1 _ ?_
                      show Steps p.tables e below (Tr1.setTop (mkF m 516 #[.val (.int p0), .val (.int p1), .val (.int p2), .val (.int p3), .val (.int ((p2 &&& (255 : Int32)).toUInt32.toUInt16.toUInt32.toInt32)), .val (.int ((p3 &&& (255 : Int32)).toUInt32.toUInt16.toUInt32.toInt32)), .val (.int (f_first (p1 &&& (1 : Int32)))), .val (.int ((p0 &&& (2147483647 : Int32)) % (10 : Int32))), .unset, .unset] [(.ref br1)])) _
                      refine XS.dup Xr1.here hx rfl (hb hby at_516) rfl rfl ?_
                      show Steps p.tables e below (Tr1.setTop (mkF m 517 #[.val (.int p0), .val (.int p1), .val (.int p2), .val (.int p3), .val (.int ((p2 &&& (255 : Int32)).toUInt32.toUInt16.toUInt32.toInt32)), .val (.int ((p3 &&& (255 : Int32)).toUInt32.toUInt16.toUInt32.toInt32)), .val (.int (f_first (p1 &&& (1 : Int32)))), .val (.int ((p0 &&& (2147483647 : Int32)) % (10 : Int32))), .unset, .unset] [(.ref br1), (.ref br1)])) _
                      refine XS.iconst Xr1.here hx rfl (hb hby at_517) ?_
                      show Steps p.tables e below (Tr1.setTop (mkF m 518 #[.val (.int p0), .val (.int p1), .val (.int p2), .val (.int p3), .val (.int ((p2 &&& (255 : Int32)).toUInt32.toUInt16.toUInt32.toInt32)), .val (.int ((p3 &&& (255 : Int32)).toUInt32.toUInt16.toUInt32.toInt32)), .val (.int (f_first (p1 &&& (1 : Int32)))), .val (.int ((p0 &&& (2147483647 : Int32)) % (10 : Int32))), .unset, .unset] [(.int (0 : Int32)), (.ref br1), (.ref br1)])) _
                      refine XS.bipush Xr1.here hx rfl (hb hby at_518) ?_
                      show Steps p.tables e below (Tr1.setTop (mkF m 520 #[.val (.int p0), .val (.int p1), .val (.int p2), .val (.int p3), .val (.int ((p2 &&& (255 : Int32)).toUInt32.toUInt16.toUInt32.toInt32)), .val (.int ((p3 &&& (255 : Int32)).toUInt32.toUInt16.toUInt32.toInt32)), .val (.int (f_first (p1 &&& (1 : Int32)))), .val (.int ((p0 &&& (2147483647 : Int32)) % (10 : Int32))), .unset, .unset] [(.int (105 : Int32)), (.int (0 : Int32)), (.ref br1), (.ref br1)])) _
                      refine str2 _ ?_
                      show Steps p.tables e below (Tr2.setTop (mkF m 521 #[.val (.int p0), .val (.int p1), .val (.int p2), .val (.int p3), .val (.int ((p2 &&& (255 : Int32)).toUInt32.toUInt16.toUInt32.toInt32)), .val (.int ((p3 &&& (255 : Int32)).toUInt32.toUInt16.toUInt32.toInt32)), .val (.int (f_first (p1 &&& (1 : Int32)))), .val (.int ((p0 &&& (2147483647 : Int32)) % (10 : Int32))), .unset, .unset] [(.ref br1)])) _
                      refine XS.dup Xr2.here hx rfl (hb hby at_521) rfl rfl ?_
                      show Steps p.tables e below (Tr2.setTop (mkF m 522 #[.val (.int p0), .val (.int p1), .val (.int p2), .val (.int p3), .val (.int ((p2 &&& (255 : Int32)).toUInt32.toUInt16.toUInt32.toInt32)), .val (.int ((p3 &&& (255 : Int32)).toUInt32.toUInt16.toUInt32.toInt32)), .val (.int (f_first (p1 &&& (1 : Int32)))), .val (.int ((p0 &&& (2147483647 : Int32)) % (10 : Int32))), .unset, .unset] [(.ref br1), (.ref br1)])) _
                      refine XS.iconst Xr2.here hx rfl (hb hby at_522) ?_
                      show Steps p.tables e below (Tr2.setTop (mkF m 523 #[.val (.int p0), .val (.int p1), .val (.int p2), .val (.int p3), .val (.int ((p2 &&& (255 : Int32)).toUInt32.toUInt16.toUInt32.toInt32)), .val (.int ((p3 &&& (255 : Int32)).toUInt32.toUInt16.toUInt32.toInt32)), .val (.int (f_first (p1 &&& (1 : Int32)))), .val (.int ((p0 &&& (2147483647 : Int32)) % (10 : Int32))), .unset, .unset] [(.int (1 : Int32)), (.ref br1), (.ref br1)])) _
                      refine XS.bipush Xr2.here hx rfl (hb hby at_523) ?_
                      show Steps p.tables e below (Tr2.setTop (mkF m 525 #[.val (.int p0), .val (.int p1), .val (.int p2), .val (.int p3), .val (.int ((p2 &&& (255 : Int32)).toUInt32.toUInt16.toUInt32.toInt32)), .val (.int ((p3 &&& (255 : Int32)).toUInt32.toUInt16.toUInt32.toInt32)), .val (.int (f_first (p1 &&& (1 : Int32)))), .val (.int ((p0 &&& (2147483647 : Int32)) % (10 : Int32))), .unset, .unset] [(.int (110 : Int32)), (.int (1 : Int32)), (.ref br1), (.ref br1)])) _
                      refine str3 _ ?_
                      show Steps p.tables e below (Tr3.setTop (mkF m 526 #[.val (.int p0), .val (.int p1), .val (.int p2), .val (.int p3), .val (.int ((p2 &&& (255 : Int32)).toUInt32.toUInt16.toUInt32.toInt32)), .val (.int ((p3 &&& (255 : Int32)).toUInt32.toUInt16.toUInt32.toInt32)), .val (.int (f_first (p1 &&& (1 : Int32)))), .val (.int ((p0 &&& (2147483647 : Int32)) % (10 : Int32))), .unset, .unset] [(.ref br1)])) _
                      refine XS.dup Xr3.here hx rfl (hb hby at_526) rfl rfl ?_
                      show Steps p.tables e below (Tr3.setTop (mkF m 527 #[.val (.int p0), .val (.int p1), .val (.int p2), .val (.int p3), .val (.int ((p2 &&& (255 : Int32)).toUInt32.toUInt16.toUInt32.toInt32)), .val (.int ((p3 &&& (255 : Int32)).toUInt32.toUInt16.toUInt32.toInt32)), .val (.int (f_first (p1 &&& (1 : Int32)))), .val (.int ((p0 &&& (2147483647 : Int32)) % (10 : Int32))), .unset, .unset] [(.ref br1), (.ref br1)])) _
                      refine XS.iconst Xr3.here hx rfl (hb hby at_527) ?_
                      show Steps p.tables e below (Tr3.setTop (mkF m 528 #[.val (.int p0), .val (.int p1), .val (.int p2), .val (.int p3), .val (.int ((p2 &&& (255 : Int32)).toUInt32.toUInt16.toUInt32.toInt32)), .val (.int ((p3 &&& (255 : Int32)).toUInt32.toUInt16.toUInt32.toInt32)), .val (.int (f_first (p1 &&& (1 : Int32)))), .val (.int ((p0 &&& (2147483647 : Int32)) % (10 : Int32))), .unset, .unset] [(.int (2 : Int32)), (.ref br1), (.ref br1)])) _
                      refine XS.bipush Xr3.here hx rfl (hb hby at_528) ?_
                      show Steps p.tables e below (Tr3.setTop (mkF m 530 #[.val (.int p0), .val (.int p1), .val (.int p2), .val (.int p3), .val (.int ((p2 &&& (255 : Int32)).toUInt32.toUInt16.toUInt32.toInt32)), .val (.int ((p3 &&& (255 : Int32)).toUInt32.toUInt16.toUInt32.toInt32)), .val (.int (f_first (p1 &&& (1 : Int32)))), .val (.int ((p0 &&& (2147483647 : Int32)) % (10 : Int32))), .unset, .unset] [(.int (115 : Int32)), (.int (2 : Int32)), (.ref br1), (.ref br1)])) _
                      refine str4 _ ?_
                      show Steps p.tables e below (Tr4.setTop (mkF m 531 #[.val (.int p0), .val (.int p1), .val (.int p2), .val (.int p3), .val (.int ((p2 &&& (255 : Int32)).toUInt32.toUInt16.toUInt32.toInt32)), .val (.int ((p3 &&& (255 : Int32)).toUInt32.toUInt16.toUInt32.toInt32)), .val (.int (f_first (p1 &&& (1 : Int32)))), .val (.int ((p0 &&& (2147483647 : Int32)) % (10 : Int32))), .unset, .unset] [(.ref br1)])) _
                      refine XS.dup Xr4.here hx rfl (hb hby at_531) rfl rfl ?_
                      show Steps p.tables e below (Tr4.setTop (mkF m 532 #[.val (.int p0), .val (.int p1), .val (.int p2), .val (.int p3), .val (.int ((p2 &&& (255 : Int32)).toUInt32.toUInt16.toUInt32.toInt32)), .val (.int ((p3 &&& (255 : Int32)).toUInt32.toUInt16.toUInt32.toInt32)), .val (.int (f_first (p1 &&& (1 : Int32)))), .val (.int ((p0 &&& (2147483647 : Int32)) % (10 : Int32))), .unset, .unset] [(.ref br1), (.ref br1)])) _
                      refine XS.iconst Xr4.here hx rfl (hb hby at_532) ?_
                      show Steps p.tables e below (Tr4.setTop (mkF m 533 #[.val (.int p0), .val (.int p1), .val (.int p2), .val (.int p3), .val (.int ((p2 &&& (255 : Int32)).toUInt32.toUInt16.toUInt32.toInt32)), .val (.int ((p3 &&& (255 : Int32)).toUInt32.toUInt16.toUInt32.toInt32)), .val (.int (f_first (p1 &&& (1 : Int32)))), .val (.int ((p0 &&& (2147483647 : Int32)) % (10 : Int32))), .unset, .unset] [(.int (3 : Int32)), (.ref br1), (.ref br1)])) _
                      refine XS.bipush Xr4.here hx rfl (hb hby at_533) ?_
                      show Steps p.tables e below (Tr4.setTop (mkF m 535 #[.val (.int p0), .val (.int p1), .val (.int p2), .val (.int p3), .val (.int ((p2 &&& (255 : Int32)).toUInt32.toUInt16.toUInt32.toInt32)), .val (.int ((p3 &&& (255 : Int32)).toUInt32.toUInt16.toUInt32.toInt32)), .val (.int (f_first (p1 &&& (1 : Int32)))), .val (.int ((p0 &&& (2147483647 : Int32)) % (10 : Int32))), .unset, .unset] [(.int (116 : Int32)), (.int (3 : Int32)), (.ref br1), (.ref br1)])) _
                      refine str5 _ ?_
                      show Steps p.tables e below (Tr5.setTop (mkF m 536 #[.val (.int p0), .val (.int p1), .val (.int p2), .val (.int p3), .val (.int ((p2 &&& (255 : Int32)).toUInt32.toUInt16.toUInt32.toInt32)), .val (.int ((p3 &&& (255 : Int32)).toUInt32.toUInt16.toUInt32.toInt32)), .val (.int (f_first (p1 &&& (1 : Int32)))), .val (.int ((p0 &&& (2147483647 : Int32)) % (10 : Int32))), .unset, .unset] [(.ref br1)])) _
                      refine XS.dup Xr5.here hx rfl (hb hby at_536) rfl rfl ?_
                      show Steps p.tables e below (Tr5.setTop (mkF m 537 #[.val (.int p0), .val (.int p1), .val (.int p2), .val (.int p3), .val (.int ((p2 &&& (255 : Int32)).toUInt32.toUInt16.toUInt32.toInt32)), .val (.int ((p3 &&& (255 : Int32)).toUInt32.toUInt16.toUInt32.toInt32)), .val (.int (f_first (p1 &&& (1 : Int32)))), .val (.int ((p0 &&& (2147483647 : Int32)) % (10 : Int32))), .unset, .unset] [(.ref br1), (.ref br1)])) _
                      refine XS.iconst Xr5.here hx rfl (hb hby at_537) ?_
                      show Steps p.tables e below (Tr5.setTop (mkF m 538 #[.val (.int p0), .val (.int p1), .val (.int p2), .val (.int p3), .val (.int ((p2 &&& (255 : Int32)).toUInt32.toUInt16.toUInt32.toInt32)), .val (.int ((p3 &&& (255 : Int32)).toUInt32.toUInt16.toUInt32.toInt32)), .val (.int (f_first (p1 &&& (1 : Int32)))), .val (.int ((p0 &&& (2147483647 : Int32)) % (10 : Int32))), .unset, .unset] [(.int (4 : Int32)), (.ref br1), (.ref br1)])) _
                      refine XS.bipush Xr5.here hx rfl (hb hby at_538) ?_
                      show Steps p.tables e below (Tr5.setTop (mkF m 540 #[.val (.int p0), .val (.int p1), .val (.int p2), .val (.int p3), .val (.int ((p2 &&& (255 : Int32)).toUInt32.toUInt16.toUInt32.toInt32)), .val (.int ((p3 &&& (255 : Int32)).toUInt32.toUInt16.toUInt32.toInt32)), .val (.int (f_first (p1 &&& (1 : Int32)))), .val (.int ((p0 &&& (2147483647 : Int32)) % (10 : Int32))), .unset, .unset] [(.int (97 : Int32)), (.int (4 : Int32)), (.ref br1), (.ref br1)])) _
                      refine str6 _ ?_
                      show Steps p.tables e below (Tr6.setTop (mkF m 541 #[.val (.int p0), .val (.int p1), .val (.int p2), .val (.int p3), .val (.int ((p2 &&& (255 : Int32)).toUInt32.toUInt16.toUInt32.toInt32)), .val (.int ((p3 &&& (255 : Int32)).toUInt32.toUInt16.toUInt32.toInt32)), .val (.int (f_first (p1 &&& (1 : Int32)))), .val (.int ((p0 &&& (2147483647 : Int32)) % (10 : Int32))), .unset, .unset] [(.ref br1)])) _
                      refine XS.dup Xr6.here hx rfl (hb hby at_541) rfl rfl ?_
                      show Steps p.tables e below (Tr6.setTop (mkF m 542 #[.val (.int p0), .val (.int p1), .val (.int p2), .val (.int p3), .val (.int ((p2 &&& (255 : Int32)).toUInt32.toUInt16.toUInt32.toInt32)), .val (.int ((p3 &&& (255 : Int32)).toUInt32.toUInt16.toUInt32.toInt32)), .val (.int (f_first (p1 &&& (1 : Int32)))), .val (.int ((p0 &&& (2147483647 : Int32)) % (10 : Int32))), .unset, .unset] [(.ref br1), (.ref br1)])) _
                      refine XS.iconst Xr6.here hx rfl (hb hby at_542) ?_
                      show Steps p.tables e below (Tr6.setTop (mkF m 543 #[.val (.int p0), .val (.int p1), .val (.int p2), .val (.int p3), .val (.int ((p2 &&& (255 : Int32)).toUInt32.toUInt16.toUInt32.toInt32)), .val (.int ((p3 &&& (255 : Int32)).toUInt32.toUInt16.toUInt32.toInt32)), .val (.int (f_first (p1 &&& (1 : Int32)))), .val (.int ((p0 &&& (2147483647 : Int32)) % (10 : Int32))), .unset, .unset] [(.int (5 : Int32)), (.ref br1), (.ref br1)])) _
                      refine XS.bipush Xr6.here hx rfl (hb hby at_543) ?_
                      show Steps p.tables e below (Tr6.setTop (mkF m 545 #[.val (.int p0), .val (.int p1), .val (.int p2), .val (.int p3), .val (.int ((p2 &&& (255 : Int32)).toUInt32.toUInt16.toUInt32.toInt32)), .val (.int ((p3 &&& (255 : Int32)).toUInt32.toUInt16.toUInt32.toInt32)), .val (.int (f_first (p1 &&& (1 : Int32)))), .val (.int ((p0 &&& (2147483647 : Int32)) % (10 : Int32))), .unset, .unset] [(.int (108 : Int32)), (.int (5 : Int32)), (.ref br1), (.ref br1)])) _
                      refine str7 _ ?_
                      show Steps p.tables e below (Tr7.setTop (mkF m 546 #[.val (.int p0), .val (.int p1), .val (.int p2), .val (.int p3), .val (.int ((p2 &&& (255 : Int32)).toUInt32.toUInt16.toUInt32.toInt32)), .val (.int ((p3 &&& (255 : Int32)).toUInt32.toUInt16.toUInt32.toInt32)), .val (.int (f_first (p1 &&& (1 : Int32)))), .val (.int ((p0 &&& (2147483647 : Int32)) % (10 : Int32))), .unset, .unset] [(.ref br1)])) _
                      refine XS.dup Xr7.here hx rfl (hb hby at_546) rfl rfl ?_
                      show Steps p.tables e below (Tr7.setTop (mkF m 547 #[.val (.int p0), .val (.int p1), .val (.int p2), .val (.int p3), .val (.int ((p2 &&& (255 : Int32)).toUInt32.toUInt16.toUInt32.toInt32)), .val (.int ((p3 &&& (255 : Int32)).toUInt32.toUInt16.toUInt32.toInt32)), .val (.int (f_first (p1 &&& (1 : Int32)))), .val (.int ((p0 &&& (2147483647 : Int32)) % (10 : Int32))), .unset, .unset] [(.ref br1), (.ref br1)])) _
                      refine XS.bipush Xr7.here hx rfl (hb hby at_547) ?_
                      show Steps p.tables e below (Tr7.setTop (mkF m 549 #[.val (.int p0), .val (.int p1), .val (.int p2), .val (.int p3), .val (.int ((p2 &&& (255 : Int32)).toUInt32.toUInt16.toUInt32.toInt32)), .val (.int ((p3 &&& (255 : Int32)).toUInt32.toUInt16.toUInt32.toInt32)), .val (.int (f_first (p1 &&& (1 : Int32)))), .val (.int ((p0 &&& (2147483647 : Int32)) % (10 : Int32))), .unset, .unset] [(.int (6 : Int32)), (.ref br1), (.ref br1)])) _
                      refine XS.bipush Xr7.here hx rfl (hb hby at_549) ?_
                      show Steps p.tables e below (Tr7.setTop (mkF m 551 #[.val (.int p0), .val (.int p1), .val (.int p2), .val (.int p3), .val (.int ((p2 &&& (255 : Int32)).toUInt32.toUInt16.toUInt32.toInt32)), .val (.int ((p3 &&& (255 : Int32)).toUInt32.toUInt16.toUInt32.toInt32)), .val (.int (f_first (p1 &&& (1 : Int32)))), .val (.int ((p0 &&& (2147483647 : Int32)) % (10 : Int32))), .unset, .unset] [(.int (108 : Int32)), (.int (6 : Int32)), (.ref br1), (.ref br1)])) _
                      refine str8 _ ?_
                      show Steps p.tables e below (Tr8.setTop (mkF m 552 #[.val (.int p0), .val (.int p1), .val (.int p2), .val (.int p3), .val (.int ((p2 &&& (255 : Int32)).toUInt32.toUInt16.toUInt32.toInt32)), .val (.int ((p3 &&& (255 : Int32)).toUInt32.toUInt16.toUInt32.toInt32)), .val (.int (f_first (p1 &&& (1 : Int32)))), .val (.int ((p0 &&& (2147483647 : Int32)) % (10 : Int32))), .unset, .unset] [(.ref br1)])) _
                      refine XS.dup Xr8.here hx rfl (hb hby at_552) rfl rfl ?_
                      show Steps p.tables e below (Tr8.setTop (mkF m 553 #[.val (.int p0), .val (.int p1), .val (.int p2), .val (.int p3), .val (.int ((p2 &&& (255 : Int32)).toUInt32.toUInt16.toUInt32.toInt32)), .val (.int ((p3 &&& (255 : Int32)).toUInt32.toUInt16.toUInt32.toInt32)), .val (.int (f_first (p1 &&& (1 : Int32)))), .val (.int ((p0 &&& (2147483647 : Int32)) % (10 : Int32))), .unset, .unset] [(.ref br1), (.ref br1)])) _
                      refine XS.bipush Xr8.here hx rfl (hb hby at_553) ?_
                      show Steps p.tables e below (Tr8.setTop (mkF m 555 #[.val (.int p0), .val (.int p1), .val (.int p2), .val (.int p3), .val (.int ((p2 &&& (255 : Int32)).toUInt32.toUInt16.toUInt32.toInt32)), .val (.int ((p3 &&& (255 : Int32)).toUInt32.toUInt16.toUInt32.toInt32)), .val (.int (f_first (p1 &&& (1 : Int32)))), .val (.int ((p0 &&& (2147483647 : Int32)) % (10 : Int32))), .unset, .unset] [(.int (7 : Int32)), (.ref br1), (.ref br1)])) _
                      refine XS.bipush Xr8.here hx rfl (hb hby at_555) ?_
                      show Steps p.tables e below (Tr8.setTop (mkF m 557 #[.val (.int p0), .val (.int p1), .val (.int p2), .val (.int p3), .val (.int ((p2 &&& (255 : Int32)).toUInt32.toUInt16.toUInt32.toInt32)), .val (.int ((p3 &&& (255 : Int32)).toUInt32.toUInt16.toUInt32.toInt32)), .val (.int (f_first (p1 &&& (1 : Int32)))), .val (.int ((p0 &&& (2147483647 : Int32)) % (10 : Int32))), .unset, .unset] [(.int (109 : Int32)), (.int (7 : Int32)), (.ref br1), (.ref br1)])) _
                      refine str9 _ ?_
                      show Steps p.tables e below (Tr9.setTop (mkF m 558 #[.val (.int p0), .val (.int p1), .val (.int p2), .val (.int p3), .val (.int ((p2 &&& (255 : Int32)).toUInt32.toUInt16.toUInt32.toInt32)), .val (.int ((p3 &&& (255 : Int32)).toUInt32.toUInt16.toUInt32.toInt32)), .val (.int (f_first (p1 &&& (1 : Int32)))), .val (.int ((p0 &&& (2147483647 : Int32)) % (10 : Int32))), .unset, .unset] [(.ref br1)])) _
                      refine XS.dup Xr9.here hx rfl (hb hby at_558) rfl rfl ?_
                      show Steps p.tables e below (Tr9.setTop (mkF m 559 #[.val (.int p0), .val (.int p1), .val (.int p2), .val (.int p3), .val (.int ((p2 &&& (255 : Int32)).toUInt32.toUInt16.toUInt32.toInt32)), .val (.int ((p3 &&& (255 : Int32)).toUInt32.toUInt16.toUInt32.toInt32)), .val (.int (f_first (p1 &&& (1 : Int32)))), .val (.int ((p0 &&& (2147483647 : Int32)) % (10 : Int32))), .unset, .unset] [(.ref br1), (.ref br1)])) _
                      refine XS.bipush Xr9.here hx rfl (hb hby at_559) ?_
                      show Steps p.tables e below (Tr9.setTop (mkF m 561 #[.val (.int p0), .val (.int p1), .val (.int p2), .val (.int p3), .val (.int ((p2 &&& (255 : Int32)).toUInt32.toUInt16.toUInt32.toInt32)), .val (.int ((p3 &&& (255 : Int32)).toUInt32.toUInt16.toUInt32.toInt32)), .val (.int (f_first (p1 &&& (1 : Int32)))), .val (.int ((p0 &&& (2147483647 : Int32)) % (10 : Int32))), .unset, .unset] [(.int (8 : Int32)), (.ref br1), (.ref br1)])) _
                      refine XS.bipush Xr9.here hx rfl (hb hby at_561) ?_
                      show Steps p.tables e below (Tr9.setTop (mkF m 563 #[.val (.int p0), .val (.int p1), .val (.int p2), .val (.int p3), .val (.int ((p2 &&& (255 : Int32)).toUInt32.toUInt16.toUInt32.toInt32)), .val (.int ((p3 &&& (255 : Int32)).toUInt32.toUInt16.toUInt32.toInt32)), .val (.int (f_first (p1 &&& (1 : Int32)))), .val (.int ((p0 &&& (2147483647 : Int32)) % (10 : Int32))), .unset, .unset] [(.int (101 : Int32)), (.int (8 : Int32)), (.ref br1), (.ref br1)])) _
                      refine str10 _ ?_
                      show Steps p.tables e below (Tr10.setTop (mkF m 564 #[.val (.int p0), .val (.int p1), .val (.int p2), .val (.int p3), .val (.int ((p2 &&& (255 : Int32)).toUInt32.toUInt16.toUInt32.toInt32)), .val (.int ((p3 &&& (255 : Int32)).toUInt32.toUInt16.toUInt32.toInt32)), .val (.int (f_first (p1 &&& (1 : Int32)))), .val (.int ((p0 &&& (2147483647 : Int32)) % (10 : Int32))), .unset, .unset] [(.ref br1)])) _
                      refine XS.dup Xr10.here hx rfl (hb hby at_564) rfl rfl ?_
                      show Steps p.tables e below (Tr10.setTop (mkF m 565 #[.val (.int p0), .val (.int p1), .val (.int p2), .val (.int p3), .val (.int ((p2 &&& (255 : Int32)).toUInt32.toUInt16.toUInt32.toInt32)), .val (.int ((p3 &&& (255 : Int32)).toUInt32.toUInt16.toUInt32.toInt32)), .val (.int (f_first (p1 &&& (1 : Int32)))), .val (.int ((p0 &&& (2147483647 : Int32)) % (10 : Int32))), .unset, .unset] [(.ref br1), (.ref br1)])) _
                      refine XS.bipush Xr10.here hx rfl (hb hby at_565) ?_
                      show Steps p.tables e below (Tr10.setTop (mkF m 567 #[.val (.int p0), .val (.int p1), .val (.int p2), .val (.int p3), .val (.int ((p2 &&& (255 : Int32)).toUInt32.toUInt16.toUInt32.toInt32)), .val (.int ((p3 &&& (255 : Int32)).toUInt32.toUInt16.toUInt32.toInt32)), .val (.int (f_first (p1 &&& (1 : Int32)))), .val (.int ((p0 &&& (2147483647 : Int32)) % (10 : Int32))), .unset, .unset] [(.int (9 : Int32)), (.ref br1), (.ref br1)])) _
                      refine XS.bipush Xr10.here hx rfl (hb hby at_567) ?_
                      show Steps p.tables e below (Tr10.setTop (mkF m 569 #[.val (.int p0), .val (.int p1), .val (.int p2), .val (.int p3), .val (.int ((p2 &&& (255 : Int32)).toUInt32.toUInt16.toUInt32.toInt32)), .val (.int ((p3 &&& (255 : Int32)).toUInt32.toUInt16.toUInt32.toInt32)), .val (.int (f_first (p1 &&& (1 : Int32)))), .val (.int ((p0 &&& (2147483647 : Int32)) % (10 : Int32))), .unset, .unset] [(.int (110 : Int32)), (.int (9 : Int32)), (.ref br1), (.ref br1)])) _
                      refine str11 _ ?_
                      show Steps p.tables e below (Tr11.setTop (mkF m 570 #[.val (.int p0), .val (.int p1), .val (.int p2), .val (.int p3), .val (.int ((p2 &&& (255 : Int32)).toUInt32.toUInt16.toUInt32.toInt32)), .val (.int ((p3 &&& (255 : Int32)).toUInt32.toUInt16.toUInt32.toInt32)), .val (.int (f_first (p1 &&& (1 : Int32)))), .val (.int ((p0 &&& (2147483647 : Int32)) % (10 : Int32))), .unset, .unset] [(.ref br1)])) _
                      refine XS.dup Xr11.here hx rfl (hb hby at_570) rfl rfl ?_
                      show Steps p.tables e below (Tr11.setTop (mkF m 571 #[.val (.int p0), .val (.int p1), .val (.int p2), .val (.int p3), .val (.int ((p2 &&& (255 : Int32)).toUInt32.toUInt16.toUInt32.toInt32)), .val (.int ((p3 &&& (255 : Int32)).toUInt32.toUInt16.toUInt32.toInt32)), .val (.int (f_first (p1 &&& (1 : Int32)))), .val (.int ((p0 &&& (2147483647 : Int32)) % (10 : Int32))), .unset, .unset] [(.ref br1), (.ref br1)])) _
                      refine XS.bipush Xr11.here hx rfl (hb hby at_571) ?_
                      show Steps p.tables e below (Tr11.setTop (mkF m 573 #[.val (.int p0), .val (.int p1), .val (.int p2), .val (.int p3), .val (.int ((p2 &&& (255 : Int32)).toUInt32.toUInt16.toUInt32.toInt32)), .val (.int ((p3 &&& (255 : Int32)).toUInt32.toUInt16.toUInt32.toInt32)), .val (.int (f_first (p1 &&& (1 : Int32)))), .val (.int ((p0 &&& (2147483647 : Int32)) % (10 : Int32))), .unset, .unset] [(.int (10 : Int32)), (.ref br1), (.ref br1)])) _
                      refine XS.bipush Xr11.here hx rfl (hb hby at_573) ?_
                      show Steps p.tables e below (Tr11.setTop (mkF m 575 #[.val (.int p0), .val (.int p1), .val (.int p2), .val (.int p3), .val (.int ((p2 &&& (255 : Int32)).toUInt32.toUInt16.toUInt32.toInt32)), .val (.int ((p3 &&& (255 : Int32)).toUInt32.toUInt16.toUInt32.toInt32)), .val (.int (f_first (p1 &&& (1 : Int32)))), .val (.int ((p0 &&& (2147483647 : Int32)) % (10 : Int32))), .unset, .unset] [(.int (116 : Int32)), (.int (10 : Int32)), (.ref br1), (.ref br1)])) _
                      refine str12 _ ?_
                      show Steps p.tables e below (Tr12.setTop (mkF m 576 #[.val (.int p0), .val (.int p1), .val (.int p2), .val (.int p3), .val (.int ((p2 &&& (255 : Int32)).toUInt32.toUInt16.toUInt32.toInt32)), .val (.int ((p3 &&& (255 : Int32)).toUInt32.toUInt16.toUInt32.toInt32)), .val (.int (f_first (p1 &&& (1 : Int32)))), .val (.int ((p0 &&& (2147483647 : Int32)) % (10 : Int32))), .unset, .unset] [(.ref br1)])) _
                      refine XS.astore Xr12.here hx rfl (hb hby at_576) rfl rfl (l' := #[.val (.int p0), .val (.int p1), .val (.int p2), .val (.int p3), .val (.int ((p2 &&& (255 : Int32)).toUInt32.toUInt16.toUInt32.toInt32)), .val (.int ((p3 &&& (255 : Int32)).toUInt32.toUInt16.toUInt32.toInt32)), .val (.int (f_first (p1 &&& (1 : Int32)))), .val (.int ((p0 &&& (2147483647 : Int32)) % (10 : Int32))), .unset, .val (.ref br1)]) rfl ?_
                      show Steps p.tables e below (Tr12.setTop (mkF m 578 #[.val (.int p0), .val (.int p1), .val (.int p2), .val (.int p3), .val (.int ((p2 &&& (255 : Int32)).toUInt32.toUInt16.toUInt32.toInt32)), .val (.int ((p3 &&& (255 : Int32)).toUInt32.toUInt16.toUInt32.toInt32)), .val (.int (f_first (p1 &&& (1 : Int32)))), .val (.int ((p0 &&& (2147483647 : Int32)) % (10 : Int32))), .unset, .val (.ref br1)] [])) _
                      refine str13 _ ?_
                      show Steps p.tables e below (Tr13.setTop (mkF m 581 #[.val (.int p0), .val (.int p1), .val (.int p2), .val (.int p3), .val (.int ((p2 &&& (255 : Int32)).toUInt32.toUInt16.toUInt32.toInt32)), .val (.int ((p3 &&& (255 : Int32)).toUInt32.toUInt16.toUInt32.toInt32)), .val (.int (f_first (p1 &&& (1 : Int32)))), .val (.int ((p0 &&& (2147483647 : Int32)) % (10 : Int32))), .unset, .val (.ref br1)] [(.ref br13)])) _
                      refine XS.dup Xr13.here hx rfl (hb hby at_581) rfl rfl ?_
                      show Steps p.tables e below (Tr13.setTop (mkF m 582 #[.val (.int p0), .val (.int p1), .val (.int p2), .val (.int p3), .val (.int ((p2 &&& (255 : Int32)).toUInt32.toUInt16.toUInt32.toInt32)), .val (.int ((p3 &&& (255 : Int32)).toUInt32.toUInt16.toUInt32.toInt32)), .val (.int (f_first (p1 &&& (1 : Int32)))), .val (.int ((p0 &&& (2147483647 : Int32)) % (10 : Int32))), .unset, .val (.ref br1)] [(.ref br13), (.ref br13)])) _
                      refine XS.aload Xr13.here hx rfl (hb hby at_582) rfl rfl ?_
                      show Steps p.tables e below (Tr13.setTop (mkF m 584 #[.val (.int p0), .val (.int p1), .val (.int p2), .val (.int p3), .val (.int ((p2 &&& (255 : Int32)).toUInt32.toUInt16.toUInt32.toInt32)), .val (.int ((p3 &&& (255 : Int32)).toUInt32.toUInt16.toUInt32.toInt32)), .val (.int (f_first (p1 &&& (1 : Int32)))), .val (.int ((p0 &&& (2147483647 : Int32)) % (10 : Int32))), .unset, .val (.ref br1)] [(.ref br1), (.ref br13), (.ref br13)])) _
                      refine str14.trans ?_
                      show Steps p.tables e below (Tr14.setTop (mkF m 587 #[.val (.int p0), .val (.int p1), .val (.int p2), .val (.int p3), .val (.int ((p2 &&& (255 : Int32)).toUInt32.toUInt16.toUInt32.toInt32)), .val (.int ((p3 &&& (255 : Int32)).toUInt32.toUInt16.toUInt32.toInt32)), .val (.int (f_first (p1 &&& (1 : Int32)))), .val (.int ((p0 &&& (2147483647 : Int32)) % (10 : Int32))), .unset, .val (.ref br1)] [(.ref br13)])) _
                      refine XS.astore Xr14.here hx rfl (hb hby at_587) rfl rfl (l' := #[.val (.int p0), .val (.int p1), .val (.int p2), .val (.int p3), .val (.int ((p2 &&& (255 : Int32)).toUInt32.toUInt16.toUInt32.toInt32)), .val (.int ((p3 &&& (255 : Int32)).toUInt32.toUInt16.toUInt32.toInt32)), .val (.int (f_first (p1 &&& (1 : Int32)))), .val (.int ((p0 &&& (2147483647 : Int32)) % (10 : Int32))), .val (.ref br13), .val (.ref br1)]) rfl ?_
                      show Steps p.tables e below (Tr14.setTop (mkF m 589 #[.val (.int p0), .val (.int p1), .val (.int p2), .val (.int p3), .val (.int ((p2 &&& (255 : Int32)).toUInt32.toUInt16.toUInt32.toInt32)), .val (.int ((p3 &&& (255 : Int32)).toUInt32.toUInt16.toUInt32.toInt32)), .val (.int (f_first (p1 &&& (1 : Int32)))), .val (.int ((p0 &&& (2147483647 : Int32)) % (10 : Int32))), .val (.ref br13), .val (.ref br1)] [])) _
                      refine XS.goto Xr14.here hx rfl (pc0 := 589) (pc' := 632) rfl (hb hby at_589) (by decide) (by decide) ?_
                      show Steps p.tables e below (Tr14.setTop (mkF m 632 #[.val (.int p0), .val (.int p1), .val (.int p2), .val (.int p3), .val (.int ((p2 &&& (255 : Int32)).toUInt32.toUInt16.toUInt32.toInt32)), .val (.int ((p3 &&& (255 : Int32)).toUInt32.toUInt16.toUInt32.toInt32)), .val (.int (f_first (p1 &&& (1 : Int32)))), .val (.int ((p0 &&& (2147483647 : Int32)) % (10 : Int32))), .val (.ref br13), .val (.ref br1)] [])) _
                      exact hst
                    show Steps p.tables e below (s₁.setTop (mkF m 19 #[.val (.int p0), .val (.int p1), .val (.int p2), .val (.int p3), .val (.int ((p2 &&& (255 : Int32)).toUInt32.toUInt16.toUInt32.toInt32)), .val (.int ((p3 &&& (255 : Int32)).toUInt32.toUInt16.toUInt32.toInt32)), .unset, .unset, .unset, .unset] [(.int (p1 &&& (1 : Int32)))])) _
                    by_cases hc19_0 : (p1 &&& (1 : Int32)) = (0 : Int32)
                    · refine XS.ifNo X0.here hx rfl (hb hby at_19) rfl ((if0 _ _).trans (teq hc19_0).2) ?_
                      show Steps p.tables e below (s₁.setTop (mkF m 22 #[.val (.int p0), .val (.int p1), .val (.int p2), .val (.int p3), .val (.int ((p2 &&& (255 : Int32)).toUInt32.toUInt16.toUInt32.toInt32)), .val (.int ((p3 &&& (255 : Int32)).toUInt32.toUInt16.toUInt32.toInt32)), .unset, .unset, .unset, .unset] [])) _
                      refine XS.iconst X0.here hx rfl (hb hby at_22) ?_
                      show Steps p.tables e below (s₁.setTop (mkF m 23 #[.val (.int p0), .val (.int p1), .val (.int p2), .val (.int p3), .val (.int ((p2 &&& (255 : Int32)).toUInt32.toUInt16.toUInt32.toInt32)), .val (.int ((p3 &&& (255 : Int32)).toUInt32.toUInt16.toUInt32.toInt32)), .unset, .unset, .unset, .unset] [(.int (1 : Int32))])) _
                      refine XS.goto X0.here hx rfl (pc0 := 23) (pc' := 27) rfl (hb hby at_23) (by decide) (by decide) ?_
                      show Steps p.tables e below (s₁.setTop (mkF m 27 #[.val (.int p0), .val (.int p1), .val (.int p2), .val (.int p3), .val (.int ((p2 &&& (255 : Int32)).toUInt32.toUInt16.toUInt32.toInt32)), .val (.int ((p3 &&& (255 : Int32)).toUInt32.toUInt16.toUInt32.toInt32)), .unset, .unset, .unset, .unset] [(.int (1 : Int32))])) _
                      have hf : f_first (p1 &&& (1 : Int32)) = (1 : Int32) := by unfold f_first; rw [if_pos hc19_0]
                      rw [hf] at key
                      exact key
                    · refine XS.ifYes X0.here hx rfl (pc0 := 19) (pc' := 26) rfl (hb hby at_19) rfl ((if0 _ _).trans (feq hc19_0).2) (by decide) (by decide) ?_
                      show Steps p.tables e below (s₁.setTop (mkF m 26 #[.val (.int p0), .val (.int p1), .val (.int p2), .val (.int p3), .val (.int ((p2 &&& (255 : Int32)).toUInt32.toUInt16.toUInt32.toInt32)), .val (.int ((p3 &&& (255 : Int32)).toUInt32.toUInt16.toUInt32.toInt32)), .unset, .unset, .unset, .unset] [])) _
                      refine XS.iconst X0.here hx rfl (hb hby at_26) ?_
                      show Steps p.tables e below (s₁.setTop (mkF m 27 #[.val (.int p0), .val (.int p1), .val (.int p2), .val (.int p3), .val (.int ((p2 &&& (255 : Int32)).toUInt32.toUInt16.toUInt32.toInt32)), .val (.int ((p3 &&& (255 : Int32)).toUInt32.toUInt16.toUInt32.toInt32)), .unset, .unset, .unset, .unset] [(.int (0 : Int32))])) _
                      have hf : f_first (p1 &&& (1 : Int32)) = (0 : Int32) := by unfold f_first; rw [if_neg hc19_0]
                      rw [hf] at key
                      exact key
                  · have O0 : Old Z n0 h0 := ⟨by rw [← hU, hh, hn0], by rw [← hU, hh]; exact ⟨Nat.le_refl _, fun _ _ q => q⟩⟩
                    obtain ⟨Tr1, hr1, kr1, Xr1, er1, Er1, Ar1, str1⟩ := newP X0 hx hZ (hw _ (List.mem_of_getElem? (i := 37) rfl)) e0 (g := (mkF m 458 #[.val (.int p0), .val (.int p1), .val (.int p2), .val (.int p3), .val (.int ((p2 &&& (255 : Int32)).toUInt32.toUInt16.toUInt32.toInt32)), .val (.int ((p3 &&& (255 : Int32)).toUInt32.toUInt16.toUInt32.toInt32)), .val (.int (f_first (p1 &&& (1 : Int32)))), .val (.int ((p0 &&& (2147483647 : Int32)) % (10 : Int32))), .unset, .unset] [(.int (7 : Int32))])) rfl (hb hby at_458) rfl (by decide) (cap := 7) (by decide) (by decide) (by decide) (by decide)
                    obtain ⟨br1, gr1⟩ : ∃ z, z = h0.size := ⟨_, rfl⟩
                    rw [← gr1] at Ar1 str1
                    have Vr1 : Arv Z hr1 br1 kr1 .char (7 : Int32) [(.int (0 : Int32)), (.int (0 : Int32)), (.int (0 : Int32)), (.int (0 : Int32)), (.int (0 : Int32)), (.int (0 : Int32)), (.int (0 : Int32))] (.int (0 : Int32)) := (Arv.new Ar1 (by decide)).pad (pad_rep [] (.int (0 : Int32)) 7)
                    have g_br1 : n0 ≤ br1 := Nat.le_trans Z0 (Nat.le_of_eq gr1.symm)
                    have Zr1 : n0 ≤ hr1.size := Nat.le_trans Z0 Er1.1
                    have Or1 := O0.ext Er1
                    have G0 := hH0.ext Er1
                    obtain ⟨cr2, Ar2, qr2, Sr2, Mr2, Hr2, Ur2⟩ := id Vr1
                    obtain ⟨Tr2, hr2, Xr2, er2, Wr2, str2⟩ := stC Xr1 hx hZ er1 Ar2 (j := (0 : Int32)) (inb_of Sr2 ⟨(by decide : ¬ ((0 : Int32) < (0 : Int32))), (by decide : (0 : Int32) < (7 : Int32))⟩) (g := (mkF m 464 #[.val (.int p0), .val (.int p1), .val (.int p2), .val (.int p3), .val (.int ((p2 &&& (255 : Int32)).toUInt32.toUInt16.toUInt32.toInt32)), .val (.int ((p3 &&& (255 : Int32)).toUInt32.toUInt16.toUInt32.toInt32)), .val (.int (f_first (p1 &&& (1 : Int32)))), .val (.int ((p0 &&& (2147483647 : Int32)) % (10 : Int32))), .unset, .unset] [(.int (108 : Int32)), (.int (0 : Int32)), (.ref br1), (.ref br1)])) rfl rfl (hb hby at_464)
                    have Nr2 := Fr.snoc Xr2 N0 g_br1
                    have Vr2 : Arv Z hr2 br1 kr1 .char (7 : Int32) [(.int (nar .char (108 : Int32))), (.int (0 : Int32)), (.int (0 : Int32)), (.int (0 : Int32)), (.int (0 : Int32)), (.int (0 : Int32)), (.int (0 : Int32))] (.int (0 : Int32)) := Arv.set Ar2 qr2 Sr2 Mr2 Hr2 Ur2 (fits_nar_char _) Wr2 0 rfl (Nat.le_of_ble_eq_true rfl)
                    have Zr2 : n0 ≤ hr2.size := Nat.le_trans Zr1 (Keep.of_wr Wr2).1
                    obtain ⟨Lpr2, Xr2, Nr2⟩ := own_pack Xr2 Nr2
                    have Or2 := Or1.wr Wr2 g_br1
                    have Gr2 := G0.wr Wr2 (Safe.arr hZ.alike Ar2 (by decide))
                    obtain ⟨cr3, Ar3, qr3, Sr3, Mr3, Hr3, Ur3⟩ := id Vr2
                    obtain ⟨Tr3, hr3, Xr3, er3, Wr3, str3⟩ := stC Xr2 hx hZ er2 Ar3 (j := (1 : Int32)) (inb_of Sr3 ⟨(by decide : ¬ ((1 : Int32) < (0 : Int32))), (by decide : (1 : Int32) < (7 : Int32))⟩) (g := (mkF m 469 #[.val (.int p0), .val (.int p1), .val (.int p2), .val (.int p3), .val (.int ((p2 &&& (255 : Int32)).toUInt32.toUInt16.toUInt32.toInt32)), .val (.int ((p3 &&& (255 : Int32)).toUInt32.toUInt16.toUInt32.toInt32)), .val (.int (f_first (p1 &&& (1 : Int32)))), .val (.int ((p0 &&& (2147483647 : Int32)) % (10 : Int32))), .unset, .unset] [(.int (117 : Int32)), (.int (1 : Int32)), (.ref br1), (.ref br1)])) rfl rfl (hb hby at_469)
                    have Nr3 := Fr.snoc Xr3 Nr2 g_br1
                    have Vr3 : Arv Z hr3 br1 kr1 .char (7 : Int32) [(.int (nar .char (108 : Int32))), (.int (nar .char (117 : Int32))), (.int (0 : Int32)), (.int (0 : Int32)), (.int (0 : Int32)), (.int (0 : Int32)), (.int (0 : Int32))] (.int (0 : Int32)) := Arv.set Ar3 qr3 Sr3 Mr3 Hr3 Ur3 (fits_nar_char _) Wr3 1 rfl (Nat.le_of_ble_eq_true rfl)
                    have Zr3 : n0 ≤ hr3.size := Nat.le_trans Zr2 (Keep.of_wr Wr3).1
                    obtain ⟨Lpr3, Xr3, Nr3⟩ := own_pack Xr3 Nr3
                    have Or3 := Or2.wr Wr3 g_br1
                    have Gr3 := Gr2.wr Wr3 (Safe.arr hZ.alike Ar3 (by decide))
                    obtain ⟨cr4, Ar4, qr4, Sr4, Mr4, Hr4, Ur4⟩ := id Vr3
                    obtain ⟨Tr4, hr4, Xr4, er4, Wr4, str4⟩ := stC Xr3 hx hZ er3 Ar4 (j := (2 : Int32)) (inb_of Sr4 ⟨(by decide : ¬ ((2 : Int32) < (0 : Int32))), (by decide : (2 : Int32) < (7 : Int32))⟩) (g := (mkF m 474 #[.val (.int p0), .val (.int p1), .val (.int p2), .val (.int p3), .val (.int ((p2 &&& (255 : Int32)).toUInt32.toUInt16.toUInt32.toInt32)), .val (.int ((p3 &&& (255 : Int32)).toUInt32.toUInt16.toUInt32.toInt32)), .val (.int (f_first (p1 &&& (1 : Int32)))), .val (.int ((p0 &&& (2147483647 : Int32)) % (10 : Int32))), .unset, .unset] [(.int (109 : Int32)), (.int (2 : Int32)), (.ref br1), (.ref br1)])) rfl rfl (hb hby at_474)
                    have Nr4 := Fr.snoc Xr4 Nr3 g_br1
                    have Vr4 : Arv Z hr4 br1 kr1 .char (7 : Int32) [(.int (nar .char (108 : Int32))), (.int (nar .char (117 : Int32))), (.int (nar .char (109 : Int32))), (.int (0 : Int32)), (.int (0 : Int32)), (.int (0 : Int32)), (.int (0 : Int32))] (.int (0 : Int32)) := Arv.set Ar4 qr4 Sr4 Mr4 Hr4 Ur4 (fits_nar_char _) Wr4 2 rfl (Nat.le_of_ble_eq_true rfl)
                    have Zr4 : n0 ≤ hr4.size := Nat.le_trans Zr3 (Keep.of_wr Wr4).1
                    obtain ⟨Lpr4, Xr4, Nr4⟩ := own_pack Xr4 Nr4
                    have Or4 := Or3.wr Wr4 g_br1
                    have Gr4 := Gr3.wr Wr4 (Safe.arr hZ.alike Ar4 (by decide))
                    obtain ⟨cr5, Ar5, qr5, Sr5, Mr5, Hr5, Ur5⟩ := id Vr4
                    obtain ⟨Tr5, hr5, Xr5, er5, Wr5, str5⟩ := stC Xr4 hx hZ er4 Ar5 (j := (3 : Int32)) (inb_of Sr5 ⟨(by decide : ¬ ((3 : Int32) < (0 : Int32))), (by decide : (3 : Int32) < (7 : Int32))⟩) (g := (mkF m 479 #[.val (.int p0), .val (.int p1), .val (.int p2), .val (.int p3), .val (.int ((p2 &&& (255 : Int32)).toUInt32.toUInt16.toUInt32.toInt32)), .val (.int ((p3 &&& (255 : Int32)).toUInt32.toUInt16.toUInt32.toInt32)), .val (.int (f_first (p1 &&& (1 : Int32)))), .val (.int ((p0 &&& (2147483647 : Int32)) % (10 : Int32))), .unset, .unset] [(.int (112 : Int32)), (.int (3 : Int32)), (.ref br1), (.ref br1)])) rfl rfl (hb hby at_479)
                    have Nr5 := Fr.snoc Xr5 Nr4 g_br1
                    have Vr5 : Arv Z hr5 br1 kr1 .char (7 : Int32) [(.int (nar .char (108 : Int32))), (.int (nar .char (117 : Int32))), (.int (nar .char (109 : Int32))), (.int (nar .char (112 : Int32))), (.int (0 : Int32)), (.int (0 : Int32)), (.int (0 : Int32))] (.int (0 : Int32)) := Arv.set Ar5 qr5 Sr5 Mr5 Hr5 Ur5 (fits_nar_char _) Wr5 3 rfl (Nat.le_of_ble_eq_true rfl)
                    have Zr5 : n0 ≤ hr5.size := Nat.le_trans Zr4 (Keep.of_wr Wr5).1
                    obtain ⟨Lpr5, Xr5, Nr5⟩ := own_pack Xr5 Nr5
                    have Or5 := Or4.wr Wr5 g_br1
                    have Gr5 := Gr4.wr Wr5 (Safe.arr hZ.alike Ar5 (by decide))
                    obtain ⟨cr6, Ar6, qr6, Sr6, Mr6, Hr6, Ur6⟩ := id Vr5
                    obtain ⟨Tr6, hr6, Xr6, er6, Wr6, str6⟩ := stC Xr5 hx hZ er5 Ar6 (j := (4 : Int32)) (inb_of Sr6 ⟨(by decide : ¬ ((4 : Int32) < (0 : Int32))), (by decide : (4 : Int32) < (7 : Int32))⟩) (g := (mkF m 484 #[.val (.int p0), .val (.int p1), .val (.int p2), .val (.int p3), .val (.int ((p2 &&& (255 : Int32)).toUInt32.toUInt16.toUInt32.toInt32)), .val (.int ((p3 &&& (255 : Int32)).toUInt32.toUInt16.toUInt32.toInt32)), .val (.int (f_first (p1 &&& (1 : Int32)))), .val (.int ((p0 &&& (2147483647 : Int32)) % (10 : Int32))), .unset, .unset] [(.int (45 : Int32)), (.int (4 : Int32)), (.ref br1), (.ref br1)])) rfl rfl (hb hby at_484)
                    have Nr6 := Fr.snoc Xr6 Nr5 g_br1
                    have Vr6 : Arv Z hr6 br1 kr1 .char (7 : Int32) [(.int (nar .char (108 : Int32))), (.int (nar .char (117 : Int32))), (.int (nar .char (109 : Int32))), (.int (nar .char (112 : Int32))), (.int (nar .char (45 : Int32))), (.int (0 : Int32)), (.int (0 : Int32))] (.int (0 : Int32)) := Arv.set Ar6 qr6 Sr6 Mr6 Hr6 Ur6 (fits_nar_char _) Wr6 4 rfl (Nat.le_of_ble_eq_true rfl)
                    have Zr6 : n0 ≤ hr6.size := Nat.le_trans Zr5 (Keep.of_wr Wr6).1
                    obtain ⟨Lpr6, Xr6, Nr6⟩ := own_pack Xr6 Nr6
                    have Or6 := Or5.wr Wr6 g_br1
                    have Gr6 := Gr5.wr Wr6 (Safe.arr hZ.alike Ar6 (by decide))
                    obtain ⟨cr7, Ar7, qr7, Sr7, Mr7, Hr7, Ur7⟩ := id Vr6
                    obtain ⟨Tr7, hr7, Xr7, er7, Wr7, str7⟩ := stC Xr6 hx hZ er6 Ar7 (j := (5 : Int32)) (inb_of Sr7 ⟨(by decide : ¬ ((5 : Int32) < (0 : Int32))), (by decide : (5 : Int32) < (7 : Int32))⟩) (g := (mkF m 489 #[.val (.int p0), .val (.int p1), .val (.int p2), .val (.int p3), .val (.int ((p2 &&& (255 : Int32)).toUInt32.toUInt16.toUInt32.toInt32)), .val (.int ((p3 &&& (255 : Int32)).toUInt32.toUInt16.toUInt32.toInt32)), .val (.int (f_first (p1 &&& (1 : Int32)))), .val (.int ((p0 &&& (2147483647 : Int32)) % (10 : Int32))), .unset, .unset] [(.int (115 : Int32)), (.int (5 : Int32)), (.ref br1), (.ref br1)])) rfl rfl (hb hby at_489)
                    have Nr7 := Fr.snoc Xr7 Nr6 g_br1
                    have Vr7 : Arv Z hr7 br1 kr1 .char (7 : Int32) [(.int (nar .char (108 : Int32))), (.int (nar .char (117 : Int32))), (.int (nar .char (109 : Int32))), (.int (nar .char (112 : Int32))), (.int (nar .char (45 : Int32))), (.int (nar .char (115 : Int32))), (.int (0 : Int32))] (.int (0 : Int32)) := Arv.set Ar7 qr7 Sr7 Mr7 Hr7 Ur7 (fits_nar_char _) Wr7 5 rfl (Nat.le_of_ble_eq_true rfl)
                    have Zr7 : n0 ≤ hr7.size := Nat.le_trans Zr6 (Keep.of_wr Wr7).1
                    obtain ⟨Lpr7, Xr7, Nr7⟩ := own_pack Xr7 Nr7
                    have Or7 := Or6.wr Wr7 g_br1
                    have Gr7 := Gr6.wr Wr7 (Safe.arr hZ.alike Ar7 (by decide))
                    obtain ⟨cr8, Ar8, qr8, Sr8, Mr8, Hr8, Ur8⟩ := id Vr7
                    obtain ⟨Tr8, hr8, Xr8, er8, Wr8, str8⟩ := stC Xr7 hx hZ er7 Ar8 (j := (6 : Int32)) (inb_of Sr8 ⟨(by decide : ¬ ((6 : Int32) < (0 : Int32))), (by decide : (6 : Int32) < (7 : Int32))⟩) (g := (mkF m 495 #[.val (.int p0), .val (.int p1), .val (.int p2), .val (.int p3), .val (.int ((p2 &&& (255 : Int32)).toUInt32.toUInt16.toUInt32.toInt32)), .val (.int ((p3 &&& (255 : Int32)).toUInt32.toUInt16.toUInt32.toInt32)), .val (.int (f_first (p1 &&& (1 : Int32)))), .val (.int ((p0 &&& (2147483647 : Int32)) % (10 : Int32))), .unset, .unset] [(.int (117 : Int32)), (.int (6 : Int32)), (.ref br1), (.ref br1)])) rfl rfl (hb hby at_495)
                    have Nr8 := Fr.snoc Xr8 Nr7 g_br1
                    have Vr8 : Arv Z hr8 br1 kr1 .char (7 : Int32) [(.int (nar .char (108 : Int32))), (.int (nar .char (117 : Int32))), (.int (nar .char (109 : Int32))), (.int (nar .char (112 : Int32))), (.int (nar .char (45 : Int32))), (.int (nar .char (115 : Int32))), (.int (nar .char (117 : Int32)))] (.int (0 : Int32)) := Arv.set Ar8 qr8 Sr8 Mr8 Hr8 Ur8 (fits_nar_char _) Wr8 6 rfl (Nat.le_of_ble_eq_true rfl)
                    have Zr8 : n0 ≤ hr8.size := Nat.le_trans Zr7 (Keep.of_wr Wr8).1
                    obtain ⟨Lpr8, Xr8, Nr8⟩ := own_pack Xr8 Nr8
                    have Or8 := Or7.wr Wr8 g_br1
                    have Gr8 := Gr7.wr Wr8 (Safe.arr hZ.alike Ar8 (by decide))
                    have hp : ∀ c ∈ ([(nar .char (108 : Int32)), (nar .char (117 : Int32)), (nar .char (109 : Int32)), (nar .char (112 : Int32)), (nar .char (45 : Int32)), (nar .char (115 : Int32)), (nar .char (117 : Int32))] : List Int32), ¬ c < 0 ∧ ¬ (255 : Int32) < c := by
                      intro c hc
                      simp only [List.mem_cons, List.not_mem_nil, or_false] at hc
                      rcases hc with rfl | rfl | rfl | rfl | rfl | rfl | rfl
                      · exact by decide
                      · exact by decide
                      · exact by decide
                      · exact by decide
                      · exact by decide
                      · exact by decide
                      · exact by decide
                    obtain ⟨cs, hl, hp, Vcs⟩ : ∃ cs : List Int32, cs.length = 7 ∧ (∀ c ∈ cs, ¬ c < 0 ∧ ¬ (255 : Int32) < c) ∧ Arv Z hr8 br1 kr1 .char (7 : Int32) (cs.map Value.int) (.int (0 : Int32)) := ⟨([(nar .char (108 : Int32)), (nar .char (117 : Int32)), (nar .char (109 : Int32)), (nar .char (112 : Int32)), (nar .char (45 : Int32)), (nar .char (115 : Int32)), (nar .char (117 : Int32))] : List Int32), rfl, hp, Vr8⟩
                    obtain ⟨Tr9, hr9, Xr9, er9, Er9, Ar9, Dr9, -, str9⟩ := newO Xr8 hx hZ hown (hw _ (List.mem_of_getElem? (i := 38) rfl)) (hw _ (List.mem_of_getElem? (i := 3) rfl)) (hw _ (List.mem_of_getElem? (i := 2) rfl)) er8 (g := (mkF m 498 #[.val (.int p0), .val (.int p1), .val (.int p2), .val (.int p3), .val (.int ((p2 &&& (255 : Int32)).toUInt32.toUInt16.toUInt32.toInt32)), .val (.int ((p3 &&& (255 : Int32)).toUInt32.toUInt16.toUInt32.toInt32)), .val (.int (f_first (p1 &&& (1 : Int32)))), .val (.int ((p0 &&& (2147483647 : Int32)) % (10 : Int32))), .unset, .val (.ref br1)] [])) rfl (hb hby at_498) (by decide) (by decide)
                    obtain ⟨br9, gr9⟩ : ∃ z, z = hr8.size := ⟨_, rfl⟩
                    rw [← gr9] at Ar9 Dr9 str9
                    have Fvr9 : Fld Z hr9 br9 "java/lang/String" "value" "[B" .null := Dr9 (Or.inr (hw _ (List.mem_of_getElem? (i := 5) rfl))) (ty := (.array .byte)) (by decide)
                    have Fcr9 : Fld Z hr9 br9 "java/lang/String" "coder" "B" (.int (0 : Int32)) := Dr9 (Or.inr (hw _ (List.mem_of_getElem? (i := 6) rfl))) (ty := .byte) (by decide)
                    have g_br9 : n0 ≤ br9 := Nat.le_trans Zr8 (Nat.le_of_eq gr9.symm)
                    have Zr9 : n0 ≤ hr9.size := Nat.le_trans Zr8 Er9.1
                    have Or9 := Or8.ext Er9
                    have Sfr9 := Safe.ext Er9 Gr8 (Safe.new (Nat.le_of_eq gr9.symm))
                    have Gr9 := Gr8.ext Er9
                    obtain ⟨_, _, ⟨Tr10, Lr10, kr10, nr10⟩, -, Xr10, ⟨Lcr10, hQr10, lr10, yr10, zr10⟩, str10⟩ := Xr9.specialBack hx (y := (⟨"java/lang/String", "<init>", "([C)V"⟩ : MethodName)) rfl hown (mvT hZ (hw _ (List.mem_of_getElem? (i := 39) rfl))) (mvT hZ (hw _ (List.mem_of_getElem? (i := 40) rfl))) (mvT hZ (hw _ (List.mem_of_getElem? (i := 41) rfl))) (by decide) (StrChars.Road.backV (W := 1) hZ hws (kI := 4) (hw _ (List.mem_of_getElem? (i := 3) rfl)) (cs := cs) (bs := (cs.map (fun c => c.toInt8.toInt32))) (n := 7) g_br9 Zr9 Ar9 Fvr9 Fcr9 (Vcs.ext Er9) (S_C.ext (own_oldE hZh Or9)) hC hl rfl (by decide) (by decide) hp rfl (by decide) (by decide)) (g := (mkF m 504 #[.val (.int p0), .val (.int p1), .val (.int p2), .val (.int p3), .val (.int ((p2 &&& (255 : Int32)).toUInt32.toUInt16.toUInt32.toInt32)), .val (.int ((p3 &&& (255 : Int32)).toUInt32.toUInt16.toUInt32.toInt32)), .val (.int (f_first (p1 &&& (1 : Int32)))), .val (.int ((p0 &&& (2147483647 : Int32)) % (10 : Int32))), .unset, .val (.ref br1)] [(.ref br1), (.ref br9), (.ref br9)])) rfl (by rw [hml]; rfl) (Steps.refl _) (a := br9) (argsL := [(.ref br1)]) (rest := [(.ref br9)]) (lenOf pd_law_2 rfl) rfl (by show 2 * 0 + _ ≤ _; exact Nat.le_of_eq rfl) (hb hby at_504) (fun _ _ => ⟨rfl, er9, (by decide : 2 + 1 ≤ _), (by decide : 11 + 7 ≤ _)⟩)
                    dsimp only [Pt.U, Pt.locs, Pt.cells, Pt.slots] at Xr10 lr10 yr10 zr10 str10 hQr10
                    subst lr10 yr10 zr10
                    obtain ⟨rfl, Nr10q, Kr10, EN, CN, tN, kN, u1, u2, u3, VN, KN⟩ := hQr10
                    have Nr10 := Fr.app Nr8 Nr10q
                    obtain ⟨Lpr10, Xr10, Nr10⟩ := own_pack Xr10 Nr10
                    have Or10 := Or9.keep Kr10 (allS g_br9 all0)
                    have Zr10 : n0 ≤ Tr10.heap.size := Nat.le_trans Zr9 Kr10.1
                    have Gr10 := Gr9.keep Kr10 (allS Sfr9 all0)
                    have hlb : (cs.map (fun c => c.toInt8.toInt32)).length = 7 := by rw [List.length_map]; exact hl
                    have KN' : Arv Z Tr10.heap tN kN .byte (Int32.ofNat (cs.map (fun c => c.toInt8.toInt32)).length) ((cs.map (fun c => c.toInt8.toInt32)).map Value.int) (.int (0 : Int32)) := by rw [hlb]; exact KN
                    have OE := own_oldE hZh Or10
                    have S_C' := S_C.ext OE
                    have S_L' := S_L.ext OE
                    have S_I' := S_I.ext OE
                    have W_L' := W_L.ext OE
                    have W_I' := W_I.ext OE
                    obtain ⟨t, hst, hrun, hended, L, NL, hEnd⟩ := own_end (s := s) (vm0 := s.vm) (.val (.int p0)) (.val (.int p1)) (.val (.int p2)) (.val (.int p3)) (.val (.int ((p2 &&& (255 : Int32)).toUInt32.toUInt16.toUInt32.toInt32))) (.val (.int ((p3 &&& (255 : Int32)).toUInt32.toUInt16.toUInt32.toInt32))) (.val (.int (f_first (p1 &&& (1 : Int32))))) (.val (.int ((p0 &&& (2147483647 : Int32)) % (10 : Int32)))) (.val (.ref br1)) (One.val rfl) br9 tN kN (cs.map (fun c => c.toInt8.toInt32)) wL wI iC (Xr10.more (by decide) (by decide)) hx Bd.returns Bd.notSynchronized hZ hw hby hml hown rfl hS0 (Nat.le_trans (Nat.le_of_eq hn0.symm) Zr10) Nr10 Zr10 wStr hEW Gr10 S_L' S_I' W_L' W_I' S_C' hC (by rw [hlb]; decide) EN CN VN KN'
                    refine ⟨t, _, pre0 _ ?_, hrun, hended, _, L, rfl, ⟨rfl, NL⟩, hEnd⟩
                    show Steps p.tables e below (s₁.setTop (mkF m 0 #[.val (.int p0), .val (.int p1), .val (.int p2), .val (.int p3), .unset, .unset, .unset, .unset, .unset, .unset] [])) _
                    refine XS.iloadN X0.here hx rfl (hb hby at_0) rfl ?_
                    show Steps p.tables e below (s₁.setTop (mkF m 1 #[.val (.int p0), .val (.int p1), .val (.int p2), .val (.int p3), .unset, .unset, .unset, .unset, .unset, .unset] [(.int p2)])) _
                    refine XS.sipush X0.here hx rfl (hb hby at_1) ?_
                    show Steps p.tables e below (s₁.setTop (mkF m 4 #[.val (.int p0), .val (.int p1), .val (.int p2), .val (.int p3), .unset, .unset, .unset, .unset, .unset, .unset] [(.int (255 : Int32)), (.int p2)])) _
                    refine XS.iand X0.here hx rfl (hb hby at_4) rfl ?_
                    show Steps p.tables e below (s₁.setTop (mkF m 5 #[.val (.int p0), .val (.int p1), .val (.int p2), .val (.int p3), .unset, .unset, .unset, .unset, .unset, .unset] [(.int (p2 &&& (255 : Int32)))])) _
                    refine XS.i2c X0.here hx rfl (hb hby at_5) rfl ?_
                    show Steps p.tables e below (s₁.setTop (mkF m 6 #[.val (.int p0), .val (.int p1), .val (.int p2), .val (.int p3), .unset, .unset, .unset, .unset, .unset, .unset] [(.int ((p2 &&& (255 : Int32)).toUInt32.toUInt16.toUInt32.toInt32))])) _
                    refine XS.istore X0.here hx rfl (hb hby at_6) rfl (l' := #[.val (.int p0), .val (.int p1), .val (.int p2), .val (.int p3), .val (.int ((p2 &&& (255 : Int32)).toUInt32.toUInt16.toUInt32.toInt32)), .unset, .unset, .unset, .unset, .unset]) rfl ?_
                    show Steps p.tables e below (s₁.setTop (mkF m 8 #[.val (.int p0), .val (.int p1), .val (.int p2), .val (.int p3), .val (.int ((p2 &&& (255 : Int32)).toUInt32.toUInt16.toUInt32.toInt32)), .unset, .unset, .unset, .unset, .unset] [])) _
                    refine XS.iloadN X0.here hx rfl (hb hby at_8) rfl ?_
                    show Steps p.tables e below (s₁.setTop (mkF m 9 #[.val (.int p0), .val (.int p1), .val (.int p2), .val (.int p3), .val (.int ((p2 &&& (255 : Int32)).toUInt32.toUInt16.toUInt32.toInt32)), .unset, .unset, .unset, .unset, .unset] [(.int p3)])) _
                    refine XS.sipush X0.here hx rfl (hb hby at_9) ?_
                    show Steps p.tables e below (s₁.setTop (mkF m 12 #[.val (.int p0), .val (.int p1), .val (.int p2), .val (.int p3), .val (.int ((p2 &&& (255 : Int32)).toUInt32.toUInt16.toUInt32.toInt32)), .unset, .unset, .unset, .unset, .unset] [(.int (255 : Int32)), (.int p3)])) _
                    refine XS.iand X0.here hx rfl (hb hby at_12) rfl ?_
                    show Steps p.tables e below (s₁.setTop (mkF m 13 #[.val (.int p0), .val (.int p1), .val (.int p2), .val (.int p3), .val (.int ((p2 &&& (255 : Int32)).toUInt32.toUInt16.toUInt32.toInt32)), .unset, .unset, .unset, .unset, .unset] [(.int (p3 &&& (255 : Int32)))])) _
                    refine XS.i2c X0.here hx rfl (hb hby at_13) rfl ?_
                    show Steps p.tables e below (s₁.setTop (mkF m 14 #[.val (.int p0), .val (.int p1), .val (.int p2), .val (.int p3), .val (.int ((p2 &&& (255 : Int32)).toUInt32.toUInt16.toUInt32.toInt32)), .unset, .unset, .unset, .unset, .unset] [(.int ((p3 &&& (255 : Int32)).toUInt32.toUInt16.toUInt32.toInt32))])) _
                    refine XS.istore X0.here hx rfl (hb hby at_14) rfl (l' := #[.val (.int p0), .val (.int p1), .val (.int p2), .val (.int p3), .val (.int ((p2 &&& (255 : Int32)).toUInt32.toUInt16.toUInt32.toInt32)), .val (.int ((p3 &&& (255 : Int32)).toUInt32.toUInt16.toUInt32.toInt32)), .unset, .unset, .unset, .unset]) rfl ?_
                    show Steps p.tables e below (s₁.setTop (mkF m 16 #[.val (.int p0), .val (.int p1), .val (.int p2), .val (.int p3), .val (.int ((p2 &&& (255 : Int32)).toUInt32.toUInt16.toUInt32.toInt32)), .val (.int ((p3 &&& (255 : Int32)).toUInt32.toUInt16.toUInt32.toInt32)), .unset, .unset, .unset, .unset] [])) _
                    refine XS.iloadN X0.here hx rfl (hb hby at_16) rfl ?_
                    show Steps p.tables e below (s₁.setTop (mkF m 17 #[.val (.int p0), .val (.int p1), .val (.int p2), .val (.int p3), .val (.int ((p2 &&& (255 : Int32)).toUInt32.toUInt16.toUInt32.toInt32)), .val (.int ((p3 &&& (255 : Int32)).toUInt32.toUInt16.toUInt32.toInt32)), .unset, .unset, .unset, .unset] [(.int p1)])) _
                    refine XS.iconst X0.here hx rfl (hb hby at_17) ?_
                    show Steps p.tables e below (s₁.setTop (mkF m 18 #[.val (.int p0), .val (.int p1), .val (.int p2), .val (.int p3), .val (.int ((p2 &&& (255 : Int32)).toUInt32.toUInt16.toUInt32.toInt32)), .val (.int ((p3 &&& (255 : Int32)).toUInt32.toUInt16.toUInt32.toInt32)), .unset, .unset, .unset, .unset] [(.int (1 : Int32)), (.int p1)])) _
                    refine XS.iand X0.here hx rfl (hb hby at_18) rfl ?_
                    have key : Steps p.tables e below (s₁.setTop (mkF m 27 #[.val (.int p0), .val (.int p1), .val (.int p2), .val (.int p3), .val (.int ((p2 &&& (255 : Int32)).toUInt32.toUInt16.toUInt32.toInt32)), .val (.int ((p3 &&& (255 : Int32)).toUInt32.toUInt16.toUInt32.toInt32)), .unset, .unset, .unset, .unset] [(.int (f_first (p1 &&& (1 : Int32))))])) t := by
                      show Steps p.tables e below (s₁.setTop (mkF m 27 #[.val (.int p0), .val (.int p1), .val (.int p2), .val (.int p3), .val (.int ((p2 &&& (255 : Int32)).toUInt32.toUInt16.toUInt32.toInt32)), .val (.int ((p3 &&& (255 : Int32)).toUInt32.toUInt16.toUInt32.toInt32)), .unset, .unset, .unset, .unset] [(.int (f_first (p1 &&& (1 : Int32))))])) _
                      refine XS.istore X0.here hx rfl (hb hby at_27) rfl (l' := #[.val (.int p0), .val (.int p1), .val (.int p2), .val (.int p3), .val (.int ((p2 &&& (255 : Int32)).toUInt32.toUInt16.toUInt32.toInt32)), .val (.int ((p3 &&& (255 : Int32)).toUInt32.toUInt16.toUInt32.toInt32)), .val (.int (f_first (p1 &&& (1 : Int32)))), .unset, .unset, .unset]) rfl ?_
                      show Steps p.tables e below (s₁.setTop (mkF m 29 #[.val (.int p0), .val (.int p1), .val (.int p2), .val (.int p3), .val (.int ((p2 &&& (255 : Int32)).toUInt32.toUInt16.toUInt32.toInt32)), .val (.int ((p3 &&& (255 : Int32)).toUInt32.toUInt16.toUInt32.toInt32)), .val (.int (f_first (p1 &&& (1 : Int32)))), .unset, .unset, .unset] [])) _
                      refine XS.iloadN X0.here hx rfl (hb hby at_29) rfl ?_
                      show Steps p.tables e below (s₁.setTop (mkF m 30 #[.val (.int p0), .val (.int p1), .val (.int p2), .val (.int p3), .val (.int ((p2 &&& (255 : Int32)).toUInt32.toUInt16.toUInt32.toInt32)), .val (.int ((p3 &&& (255 : Int32)).toUInt32.toUInt16.toUInt32.toInt32)), .val (.int (f_first (p1 &&& (1 : Int32)))), .unset, .unset, .unset] [(.int p0)])) _
                      refine X0.ldcInt hx hown (mvT hZ (hw _ (List.mem_of_getElem? (i := 0) rfl))) (g := (mkF m 30 #[.val (.int p0), .val (.int p1), .val (.int p2), .val (.int p3), .val (.int ((p2 &&& (255 : Int32)).toUInt32.toUInt16.toUInt32.toInt32)), .val (.int ((p3 &&& (255 : Int32)).toUInt32.toUInt16.toUInt32.toInt32)), .val (.int (f_first (p1 &&& (1 : Int32)))), .unset, .unset, .unset] [(.int p0)])) rfl (hb hby at_30) _ ?_
                      show Steps p.tables e below (s₁.setTop (mkF m 32 #[.val (.int p0), .val (.int p1), .val (.int p2), .val (.int p3), .val (.int ((p2 &&& (255 : Int32)).toUInt32.toUInt16.toUInt32.toInt32)), .val (.int ((p3 &&& (255 : Int32)).toUInt32.toUInt16.toUInt32.toInt32)), .val (.int (f_first (p1 &&& (1 : Int32)))), .unset, .unset, .unset] [(.int (2147483647 : Int32)), (.int p0)])) _
                      refine XS.iand X0.here hx rfl (hb hby at_32) rfl ?_
                      show Steps p.tables e below (s₁.setTop (mkF m 33 #[.val (.int p0), .val (.int p1), .val (.int p2), .val (.int p3), .val (.int ((p2 &&& (255 : Int32)).toUInt32.toUInt16.toUInt32.toInt32)), .val (.int ((p3 &&& (255 : Int32)).toUInt32.toUInt16.toUInt32.toInt32)), .val (.int (f_first (p1 &&& (1 : Int32)))), .unset, .unset, .unset] [(.int (p0 &&& (2147483647 : Int32)))])) _
                      refine XS.bipush X0.here hx rfl (hb hby at_33) ?_
                      show Steps p.tables e below (s₁.setTop (mkF m 35 #[.val (.int p0), .val (.int p1), .val (.int p2), .val (.int p3), .val (.int ((p2 &&& (255 : Int32)).toUInt32.toUInt16.toUInt32.toInt32)), .val (.int ((p3 &&& (255 : Int32)).toUInt32.toUInt16.toUInt32.toInt32)), .val (.int (f_first (p1 &&& (1 : Int32)))), .unset, .unset, .unset] [(.int (10 : Int32)), (.int (p0 &&& (2147483647 : Int32)))])) _
                      refine Jvm.RoadKit.iremM X0 hx rfl (hb hby at_35) rfl (by decide) ?_
                      show Steps p.tables e below (s₁.setTop (mkF m 36 #[.val (.int p0), .val (.int p1), .val (.int p2), .val (.int p3), .val (.int ((p2 &&& (255 : Int32)).toUInt32.toUInt16.toUInt32.toInt32)), .val (.int ((p3 &&& (255 : Int32)).toUInt32.toUInt16.toUInt32.toInt32)), .val (.int (f_first (p1 &&& (1 : Int32)))), .unset, .unset, .unset] [(.int ((p0 &&& (2147483647 : Int32)) % (10 : Int32)))])) _
                      refine XS.istore X0.here hx rfl (hb hby at_36) rfl (l' := #[.val (.int p0), .val (.int p1), .val (.int p2), .val (.int p3), .val (.int ((p2 &&& (255 : Int32)).toUInt32.toUInt16.toUInt32.toInt32)), .val (.int ((p3 &&& (255 : Int32)).toUInt32.toUInt16.toUInt32.toInt32)), .val (.int (f_first (p1 &&& (1 : Int32)))), .val (.int ((p0 &&& (2147483647 : Int32)) % (10 : Int32))), .unset, .unset]) rfl ?_
                      show Steps p.tables e below (s₁.setTop (mkF m 38 #[.val (.int p0), .val (.int p1), .val (.int p2), .val (.int p3), .val (.int ((p2 &&& (255 : Int32)).toUInt32.toUInt16.toUInt32.toInt32)), .val (.int ((p3 &&& (255 : Int32)).toUInt32.toUInt16.toUInt32.toInt32)), .val (.int (f_first (p1 &&& (1 : Int32)))), .val (.int ((p0 &&& (2147483647 : Int32)) % (10 : Int32))), .unset, .unset] [])) _
                      refine XS.iload X0.here hx rfl (hb hby at_38) rfl ?_
                      show Steps p.tables e below (s₁.setTop (mkF m 40 #[.val (.int p0), .val (.int p1), .val (.int p2), .val (.int p3), .val (.int ((p2 &&& (255 : Int32)).toUInt32.toUInt16.toUInt32.toInt32)), .val (.int ((p3 &&& (255 : Int32)).toUInt32.toUInt16.toUInt32.toInt32)), .val (.int (f_first (p1 &&& (1 : Int32)))), .val (.int ((p0 &&& (2147483647 : Int32)) % (10 : Int32))), .unset, .unset] [(.int ((p0 &&& (2147483647 : Int32)) % (10 : Int32)))])) _
                      refine XS.ifYes X0.here hx rfl (pc0 := 40) (pc' := 50) rfl (hb hby at_40) rfl ((if0 _ _).trans (feq hcase0).2) (by decide) (by decide) ?_
                      show Steps p.tables e below (s₁.setTop (mkF m 50 #[.val (.int p0), .val (.int p1), .val (.int p2), .val (.int p3), .val (.int ((p2 &&& (255 : Int32)).toUInt32.toUInt16.toUInt32.toInt32)), .val (.int ((p3 &&& (255 : Int32)).toUInt32.toUInt16.toUInt32.toInt32)), .val (.int (f_first (p1 &&& (1 : Int32)))), .val (.int ((p0 &&& (2147483647 : Int32)) % (10 : Int32))), .unset, .unset] [])) _
                      refine XS.iload X0.here hx rfl (hb hby at_50) rfl ?_
                      show Steps p.tables e below (s₁.setTop (mkF m 52 #[.val (.int p0), .val (.int p1), .val (.int p2), .val (.int p3), .val (.int ((p2 &&& (255 : Int32)).toUInt32.toUInt16.toUInt32.toInt32)), .val (.int ((p3 &&& (255 : Int32)).toUInt32.toUInt16.toUInt32.toInt32)), .val (.int (f_first (p1 &&& (1 : Int32)))), .val (.int ((p0 &&& (2147483647 : Int32)) % (10 : Int32))), .unset, .unset] [(.int ((p0 &&& (2147483647 : Int32)) % (10 : Int32)))])) _
                      refine XS.iconst X0.here hx rfl (hb hby at_52) ?_
                      show Steps p.tables e below (s₁.setTop (mkF m 53 #[.val (.int p0), .val (.int p1), .val (.int p2), .val (.int p3), .val (.int ((p2 &&& (255 : Int32)).toUInt32.toUInt16.toUInt32.toInt32)), .val (.int ((p3 &&& (255 : Int32)).toUInt32.toUInt16.toUInt32.toInt32)), .val (.int (f_first (p1 &&& (1 : Int32)))), .val (.int ((p0 &&& (2147483647 : Int32)) % (10 : Int32))), .unset, .unset] [(.int (1 : Int32)), (.int ((p0 &&& (2147483647 : Int32)) % (10 : Int32)))])) _
                      refine XS.icmpYes X0.here hx rfl (pc0 := 53) (pc' := 63) rfl (hb hby at_53) rfl (feq hcase1).2 (by decide) (by decide) ?_
                      show Steps p.tables e below (s₁.setTop (mkF m 63 #[.val (.int p0), .val (.int p1), .val (.int p2), .val (.int p3), .val (.int ((p2 &&& (255 : Int32)).toUInt32.toUInt16.toUInt32.toInt32)), .val (.int ((p3 &&& (255 : Int32)).toUInt32.toUInt16.toUInt32.toInt32)), .val (.int (f_first (p1 &&& (1 : Int32)))), .val (.int ((p0 &&& (2147483647 : Int32)) % (10 : Int32))), .unset, .unset] [])) _
                      refine XS.iload X0.here hx rfl (hb hby at_63) rfl ?_
                      show Steps p.tables e below (s₁.setTop (mkF m 65 #[.val (.int p0), .val (.int p1), .val (.int p2), .val (.int p3), .val (.int ((p2 &&& (255 : Int32)).toUInt32.toUInt16.toUInt32.toInt32)), .val (.int ((p3 &&& (255 : Int32)).toUInt32.toUInt16.toUInt32.toInt32)), .val (.int (f_first (p1 &&& (1 : Int32)))), .val (.int ((p0 &&& (2147483647 : Int32)) % (10 : Int32))), .unset, .unset] [(.int ((p0 &&& (2147483647 : Int32)) % (10 : Int32)))])) _
                      refine XS.iconst X0.here hx rfl (hb hby at_65) ?_
                      show Steps p.tables e below (s₁.setTop (mkF m 66 #[.val (.int p0), .val (.int p1), .val (.int p2), .val (.int p3), .val (.int ((p2 &&& (255 : Int32)).toUInt32.toUInt16.toUInt32.toInt32)), .val (.int ((p3 &&& (255 : Int32)).toUInt32.toUInt16.toUInt32.toInt32)), .val (.int (f_first (p1 &&& (1 : Int32)))), .val (.int ((p0 &&& (2147483647 : Int32)) % (10 : Int32))), .unset, .unset] [(.int (2 : Int32)), (.int ((p0 &&& (2147483647 : Int32)) % (10 : Int32)))])) _
                      refine XS.icmpYes X0.here hx rfl (pc0 := 66) (pc' := 76) rfl (hb hby at_66) rfl (feq hcase2).2 (by decide) (by decide) ?_
                      show Steps p.tables e below (s₁.setTop (mkF m 76 #[.val (.int p0), .val (.int p1), .val (.int p2), .val (.int p3), .val (.int ((p2 &&& (255 : Int32)).toUInt32.toUInt16.toUInt32.toInt32)), .val (.int ((p3 &&& (255 : Int32)).toUInt32.toUInt16.toUInt32.toInt32)), .val (.int (f_first (p1 &&& (1 : Int32)))), .val (.int ((p0 &&& (2147483647 : Int32)) % (10 : Int32))), .unset, .unset] [])) _
                      refine XS.iload X0.here hx rfl (hb hby at_76) rfl ?_
                      show Steps p.tables e below (s₁.setTop (mkF m 78 #[.val (.int p0), .val (.int p1), .val (.int p2), .val (.int p3), .val (.int ((p2 &&& (255 : Int32)).toUInt32.toUInt16.toUInt32.toInt32)), .val (.int ((p3 &&& (255 : Int32)).toUInt32.toUInt16.toUInt32.toInt32)), .val (.int (f_first (p1 &&& (1 : Int32)))), .val (.int ((p0 &&& (2147483647 : Int32)) % (10 : Int32))), .unset, .unset] [(.int ((p0 &&& (2147483647 : Int32)) % (10 : Int32)))])) _
                      refine XS.iconst X0.here hx rfl (hb hby at_78) ?_
                      show Steps p.tables e below (s₁.setTop (mkF m 79 #[.val (.int p0), .val (.int p1), .val (.int p2), .val (.int p3), .val (.int ((p2 &&& (255 : Int32)).toUInt32.toUInt16.toUInt32.toInt32)), .val (.int ((p3 &&& (255 : Int32)).toUInt32.toUInt16.toUInt32.toInt32)), .val (.int (f_first (p1 &&& (1 : Int32)))), .val (.int ((p0 &&& (2147483647 : Int32)) % (10 : Int32))), .unset, .unset] [(.int (3 : Int32)), (.int ((p0 &&& (2147483647 : Int32)) % (10 : Int32)))])) _
                      refine XS.icmpYes X0.here hx rfl (pc0 := 79) (pc' := 88) rfl (hb hby at_79) rfl (feq hcase3).2 (by decide) (by decide) ?_
                      show Steps p.tables e below (s₁.setTop (mkF m 88 #[.val (.int p0), .val (.int p1), .val (.int p2), .val (.int p3), .val (.int ((p2 &&& (255 : Int32)).toUInt32.toUInt16.toUInt32.toInt32)), .val (.int ((p3 &&& (255 : Int32)).toUInt32.toUInt16.toUInt32.toInt32)), .val (.int (f_first (p1 &&& (1 : Int32)))), .val (.int ((p0 &&& (2147483647 : Int32)) % (10 : Int32))), .unset, .unset] [])) _
                      refine XS.iload X0.here hx rfl (hb hby at_88) rfl ?_
                      show Steps p.tables e below (s₁.setTop (mkF m 90 #[.val (.int p0), .val (.int p1), .val (.int p2), .val (.int p3), .val (.int ((p2 &&& (255 : Int32)).toUInt32.toUInt16.toUInt32.toInt32)), .val (.int ((p3 &&& (255 : Int32)).toUInt32.toUInt16.toUInt32.toInt32)), .val (.int (f_first (p1 &&& (1 : Int32)))), .val (.int ((p0 &&& (2147483647 : Int32)) % (10 : Int32))), .unset, .unset] [(.int ((p0 &&& (2147483647 : Int32)) % (10 : Int32)))])) _
                      refine XS.iconst X0.here hx rfl (hb hby at_90) ?_
                      show Steps p.tables e below (s₁.setTop (mkF m 91 #[.val (.int p0), .val (.int p1), .val (.int p2), .val (.int p3), .val (.int ((p2 &&& (255 : Int32)).toUInt32.toUInt16.toUInt32.toInt32)), .val (.int ((p3 &&& (255 : Int32)).toUInt32.toUInt16.toUInt32.toInt32)), .val (.int (f_first (p1 &&& (1 : Int32)))), .val (.int ((p0 &&& (2147483647 : Int32)) % (10 : Int32))), .unset, .unset] [(.int (4 : Int32)), (.int ((p0 &&& (2147483647 : Int32)) % (10 : Int32)))])) _
                      refine XS.icmpYes X0.here hx rfl (pc0 := 91) (pc' := 168) rfl (hb hby at_91) rfl (feq hcase4).2 (by decide) (by decide) ?_
                      show Steps p.tables e below (s₁.setTop (mkF m 168 #[.val (.int p0), .val (.int p1), .val (.int p2), .val (.int p3), .val (.int ((p2 &&& (255 : Int32)).toUInt32.toUInt16.toUInt32.toInt32)), .val (.int ((p3 &&& (255 : Int32)).toUInt32.toUInt16.toUInt32.toInt32)), .val (.int (f_first (p1 &&& (1 : Int32)))), .val (.int ((p0 &&& (2147483647 : Int32)) % (10 : Int32))), .unset, .unset] [])) _
                      refine XS.iload X0.here hx rfl (hb hby at_168) rfl ?_
                      show Steps p.tables e below (s₁.setTop (mkF m 170 #[.val (.int p0), .val (.int p1), .val (.int p2), .val (.int p3), .val (.int ((p2 &&& (255 : Int32)).toUInt32.toUInt16.toUInt32.toInt32)), .val (.int ((p3 &&& (255 : Int32)).toUInt32.toUInt16.toUInt32.toInt32)), .val (.int (f_first (p1 &&& (1 : Int32)))), .val (.int ((p0 &&& (2147483647 : Int32)) % (10 : Int32))), .unset, .unset] [(.int ((p0 &&& (2147483647 : Int32)) % (10 : Int32)))])) _
                      refine XS.iconst X0.here hx rfl (hb hby at_170) ?_
                      show Steps p.tables e below (s₁.setTop (mkF m 171 #[.val (.int p0), .val (.int p1), .val (.int p2), .val (.int p3), .val (.int ((p2 &&& (255 : Int32)).toUInt32.toUInt16.toUInt32.toInt32)), .val (.int ((p3 &&& (255 : Int32)).toUInt32.toUInt16.toUInt32.toInt32)), .val (.int (f_first (p1 &&& (1 : Int32)))), .val (.int ((p0 &&& (2147483647 : Int32)) % (10 : Int32))), .unset, .unset] [(.int (5 : Int32)), (.int ((p0 &&& (2147483647 : Int32)) % (10 : Int32)))])) _
                      refine XS.icmpYes X0.here hx rfl (pc0 := 171) (pc' := 272) rfl (hb hby at_171) rfl (feq hcase5).2 (by decide) (by decide) ?_
                      show Steps p.tables e below (s₁.setTop (mkF m 272 #[.val (.int p0), .val (.int p1), .val (.int p2), .val (.int p3), .val (.int ((p2 &&& (255 : Int32)).toUInt32.toUInt16.toUInt32.toInt32)), .val (.int ((p3 &&& (255 : Int32)).toUInt32.toUInt16.toUInt32.toInt32)), .val (.int (f_first (p1 &&& (1 : Int32)))), .val (.int ((p0 &&& (2147483647 : Int32)) % (10 : Int32))), .unset, .unset] [])) _
                      refine XS.iload X0.here hx rfl (hb hby at_272) rfl ?_
                      show Steps p.tables e below (s₁.setTop (mkF m 274 #[.val (.int p0), .val (.int p1), .val (.int p2), .val (.int p3), .val (.int ((p2 &&& (255 : Int32)).toUInt32.toUInt16.toUInt32.toInt32)), .val (.int ((p3 &&& (255 : Int32)).toUInt32.toUInt16.toUInt32.toInt32)), .val (.int (f_first (p1 &&& (1 : Int32)))), .val (.int ((p0 &&& (2147483647 : Int32)) % (10 : Int32))), .unset, .unset] [(.int ((p0 &&& (2147483647 : Int32)) % (10 : Int32)))])) _
                      refine XS.bipush X0.here hx rfl (hb hby at_274) ?_
                      show Steps p.tables e below (s₁.setTop (mkF m 276 #[.val (.int p0), .val (.int p1), .val (.int p2), .val (.int p3), .val (.int ((p2 &&& (255 : Int32)).toUInt32.toUInt16.toUInt32.toInt32)), .val (.int ((p3 &&& (255 : Int32)).toUInt32.toUInt16.toUInt32.toInt32)), .val (.int (f_first (p1 &&& (1 : Int32)))), .val (.int ((p0 &&& (2147483647 : Int32)) % (10 : Int32))), .unset, .unset] [(.int (6 : Int32)), (.int ((p0 &&& (2147483647 : Int32)) % (10 : Int32)))])) _
                      refine XS.icmpYes X0.here hx rfl (pc0 := 276) (pc' := 444) rfl (hb hby at_276) rfl (feq hcase6).2 (by decide) (by decide) ?_
                      show Steps p.tables e below (s₁.setTop (mkF m 444 #[.val (.int p0), .val (.int p1), .val (.int p2), .val (.int p3), .val (.int ((p2 &&& (255 : Int32)).toUInt32.toUInt16.toUInt32.toInt32)), .val (.int ((p3 &&& (255 : Int32)).toUInt32.toUInt16.toUInt32.toInt32)), .val (.int (f_first (p1 &&& (1 : Int32)))), .val (.int ((p0 &&& (2147483647 : Int32)) % (10 : Int32))), .unset, .unset] [])) _
                      refine XS.iload X0.here hx rfl (hb hby at_444) rfl ?_
                      show Steps p.tables e below (s₁.setTop (mkF m 446 #[.val (.int p0), .val (.int p1), .val (.int p2), .val (.int p3), .val (.int ((p2 &&& (255 : Int32)).toUInt32.toUInt16.toUInt32.toInt32)), .val (.int ((p3 &&& (255 : Int32)).toUInt32.toUInt16.toUInt32.toInt32)), .val (.int (f_first (p1 &&& (1 : Int32)))), .val (.int ((p0 &&& (2147483647 : Int32)) % (10 : Int32))), .unset, .unset] [(.int ((p0 &&& (2147483647 : Int32)) % (10 : Int32)))])) _
                      refine XS.bipush X0.here hx rfl (hb hby at_446) ?_
                      show Steps p.tables e below (s₁.setTop (mkF m 448 #[.val (.int p0), .val (.int p1), .val (.int p2), .val (.int p3), .val (.int ((p2 &&& (255 : Int32)).toUInt32.toUInt16.toUInt32.toInt32)), .val (.int ((p3 &&& (255 : Int32)).toUInt32.toUInt16.toUInt32.toInt32)), .val (.int (f_first (p1 &&& (1 : Int32)))), .val (.int ((p0 &&& (2147483647 : Int32)) % (10 : Int32))), .unset, .unset] [(.int (7 : Int32)), (.int ((p0 &&& (2147483647 : Int32)) % (10 : Int32)))])) _
                      refine XS.icmpNo X0.here hx rfl (hb hby at_448) rfl (teq hcase7).2 ?_
                      show Steps p.tables e below (s₁.setTop (mkF m 451 #[.val (.int p0), .val (.int p1), .val (.int p2), .val (.int p3), .val (.int ((p2 &&& (255 : Int32)).toUInt32.toUInt16.toUInt32.toInt32)), .val (.int ((p3 &&& (255 : Int32)).toUInt32.toUInt16.toUInt32.toInt32)), .val (.int (f_first (p1 &&& (1 : Int32)))), .val (.int ((p0 &&& (2147483647 : Int32)) % (10 : Int32))), .unset, .unset] [])) _
                      refine XS.iload X0.here hx rfl (hb hby at_451) rfl ?_
                      show Steps p.tables e below (s₁.setTop (mkF m 453 #[.val (.int p0), .val (.int p1), .val (.int p2), .val (.int p3), .val (.int ((p2 &&& (255 : Int32)).toUInt32.toUInt16.toUInt32.toInt32)), .val (.int ((p3 &&& (255 : Int32)).toUInt32.toUInt16.toUInt32.toInt32)), .val (.int (f_first (p1 &&& (1 : Int32)))), .val (.int ((p0 &&& (2147483647 : Int32)) % (10 : Int32))), .unset, .unset] [(.int (f_first (p1 &&& (1 : Int32))))])) _
                      refine XS.ifNo X0.here hx rfl (hb hby at_453) rfl ((if0 _ _).trans (feq hff).1) ?_
                      show Steps p.tables e below (s₁.setTop (mkF m 456 #[.val (.int p0), .val (.int p1), .val (.int p2), .val (.int p3), .val (.int ((p2 &&& (255 : Int32)).toUInt32.toUInt16.toUInt32.toInt32)), .val (.int ((p3 &&& (255 : Int32)).toUInt32.toUInt16.toUInt32.toInt32)), .val (.int (f_first (p1 &&& (1 : Int32)))), .val (.int ((p0 &&& (2147483647 : Int32)) % (10 : Int32))), .unset, .unset] [])) _
                      refine XS.bipush X0.here hx rfl (hb hby at_456) ?_
                      show Steps p.tables e below (s₁.setTop (mkF m 458 #[.val (.int p0), .val (.int p1), .val (.int p2), .val (.int p3), .val (.int ((p2 &&& (255 : Int32)).toUInt32.toUInt16.toUInt32.toInt32)), .val (.int ((p3 &&& (255 : Int32)).toUInt32.toUInt16.toUInt32.toInt32)), .val (.int (f_first (p1 &&& (1 : Int32)))), .val (.int ((p0 &&& (2147483647 : Int32)) % (10 : Int32))), .unset, .unset] [(.int (7 : Int32))])) _
                      refine str1 _ ?_
                      show Steps p.tables e below (Tr1.setTop (mkF m 460 #[.val (.int p0), .val (.int p1), .val (.int p2), .val (.int p3), .val (.int ((p2 &&& (255 : Int32)).toUInt32.toUInt16.toUInt32.toInt32)), .val (.int ((p3 &&& (255 : Int32)).toUInt32.toUInt16.toUInt32.toInt32)), .val (.int (f_first (p1 &&& (1 : Int32)))), .val (.int ((p0 &&& (2147483647 : Int32)) % (10 : Int32))), .unset, .unset] [(.ref br1)])) _
                      refine XS.dup Xr1.here hx rfl (hb hby at_460) rfl rfl ?_
                      show Steps p.tables e below (Tr1.setTop (mkF m 461 #[.val (.int p0), .val (.int p1), .val (.int p2), .val (.int p3), .val (.int ((p2 &&& (255 : Int32)).toUInt32.toUInt16.toUInt32.toInt32)), .val (.int ((p3 &&& (255 : Int32)).toUInt32.toUInt16.toUInt32.toInt32)), .val (.int (f_first (p1 &&& (1 : Int32)))), .val (.int ((p0 &&& (2147483647 : Int32)) % (10 : Int32))), .unset, .unset] [(.ref br1), (.ref br1)])) _
                      refine XS.iconst Xr1.here hx rfl (hb hby at_461) ?_
                      show Steps p.tables e below (Tr1.setTop (mkF m 462 #[.val (.int p0), .val (.int p1), .val (.int p2), .val (.int p3), .val (.int ((p2 &&& (255 : Int32)).toUInt32.toUInt16.toUInt32.toInt32)), .val (.int ((p3 &&& (255 : Int32)).toUInt32.toUInt16.toUInt32.toInt32)), .val (.int (f_first (p1 &&& (1 : Int32)))), .val (.int ((p0 &&& (2147483647 : Int32)) % (10 : Int32))), .unset, .unset] [(.int (0 : Int32)), (.ref br1), (.ref br1)])) _
                      refine XS.bipush Xr1.here hx rfl (hb hby at_462) ?_
                      show Steps p.tables e below (Tr1.setTop (mkF m 464 #[.val (.int p0), .val (.int p1), .val (.int p2), .val (.int p3), .val (.int ((p2 &&& (255 : Int32)).toUInt32.toUInt16.toUInt32.toInt32)), .val (.int ((p3 &&& (255 : Int32)).toUInt32.toUInt16.toUInt32.toInt32)), .val (.int (f_first (p1 &&& (1 : Int32)))), .val (.int ((p0 &&& (2147483647 : Int32)) % (10 : Int32))), .unset, .unset] [(.int (108 : Int32)), (.int (0 : Int32)), (.ref br1), (.ref br1)])) _
                      refine str2 _ ?_
                      show Steps p.tables e below (Tr2.setTop (mkF m 465 #[.val (.int p0), .val (.int p1), .val (.int p2), .val (.int p3), .val (.int ((p2 &&& (255 : Int32)).toUInt32.toUInt16.toUInt32.toInt32)), .val (.int ((p3 &&& (255 : Int32)).toUInt32.toUInt16.toUInt32.toInt32)), .val (.int (f_first (p1 &&& (1 : Int32)))), .val (.int ((p0 &&& (2147483647 : Int32)) % (10 : Int32))), .unset, .unset] [(.ref br1)])) _
                      refine XS.dup Xr2.here hx rfl (hb hby at_465) rfl rfl ?_
                      show Steps p.tables e below (Tr2.setTop (mkF m 466 #[.val (.int p0), .val (.int p1), .val (.int p2), .val (.int p3), .val (.int ((p2 &&& (255 : Int32)).toUInt32.toUInt16.toUInt32.toInt32)), .val (.int ((p3 &&& (255 : Int32)).toUInt32.toUInt16.toUInt32.toInt32)), .val (.int (f_first (p1 &&& (1 : Int32)))), .val (.int ((p0 &&& (2147483647 : Int32)) % (10 : Int32))), .unset, .unset] [(.ref br1), (.ref br1)])) _
                      refine XS.iconst Xr2.here hx rfl (hb hby at_466) ?_
                      show Steps p.tables e below (Tr2.setTop (mkF m 467 #[.val (.int p0), .val (.int p1), .val (.int p2), .val (.int p3), .val (.int ((p2 &&& (255 : Int32)).toUInt32.toUInt16.toUInt32.toInt32)), .val (.int ((p3 &&& (255 : Int32)).toUInt32.toUInt16.toUInt32.toInt32)), .val (.int (f_first (p1 &&& (1 : Int32)))), .val (.int ((p0 &&& (2147483647 : Int32)) % (10 : Int32))), .unset, .unset] [(.int (1 : Int32)), (.ref br1), (.ref br1)])) _
                      refine XS.bipush Xr2.here hx rfl (hb hby at_467) ?_
                      show Steps p.tables e below (Tr2.setTop (mkF m 469 #[.val (.int p0), .val (.int p1), .val (.int p2), .val (.int p3), .val (.int ((p2 &&& (255 : Int32)).toUInt32.toUInt16.toUInt32.toInt32)), .val (.int ((p3 &&& (255 : Int32)).toUInt32.toUInt16.toUInt32.toInt32)), .val (.int (f_first (p1 &&& (1 : Int32)))), .val (.int ((p0 &&& (2147483647 : Int32)) % (10 : Int32))), .unset, .unset] [(.int (117 : Int32)), (.int (1 : Int32)), (.ref br1), (.ref br1)])) _
                      refine str3 _ ?_
                      show Steps p.tables e below (Tr3.setTop (mkF m 470 #[.val (.int p0), .val (.int p1), .val (.int p2), .val (.int p3), .val (.int ((p2 &&& (255 : Int32)).toUInt32.toUInt16.toUInt32.toInt32)), .val (.int ((p3 &&& (255 : Int32)).toUInt32.toUInt16.toUInt32.toInt32)), .val (.int (f_first (p1 &&& (1 : Int32)))), .val (.int ((p0 &&& (2147483647 : Int32)) % (10 : Int32))), .unset, .unset] [(.ref br1)])) _
                      refine XS.dup Xr3.here hx rfl (hb hby at_470) rfl rfl ?_
                      show Steps p.tables e below (Tr3.setTop (mkF m 471 #[.val (.int p0), .val (.int p1), .val (.int p2), .val (.int p3), .val (.int ((p2 &&& (255 : Int32)).toUInt32.toUInt16.toUInt32.toInt32)), .val (.int ((p3 &&& (255 : Int32)).toUInt32.toUInt16.toUInt32.toInt32)), .val (.int (f_first (p1 &&& (1 : Int32)))), .val (.int ((p0 &&& (2147483647 : Int32)) % (10 : Int32))), .unset, .unset] [(.ref br1), (.ref br1)])) _
                      refine XS.iconst Xr3.here hx rfl (hb hby at_471) ?_
                      show Steps p.tables e below (Tr3.setTop (mkF m 472 #[.val (.int p0), .val (.int p1), .val (.int p2), .val (.int p3), .val (.int ((p2 &&& (255 : Int32)).toUInt32.toUInt16.toUInt32.toInt32)), .val (.int ((p3 &&& (255 : Int32)).toUInt32.toUInt16.toUInt32.toInt32)), .val (.int (f_first (p1 &&& (1 : Int32)))), .val (.int ((p0 &&& (2147483647 : Int32)) % (10 : Int32))), .unset, .unset] [(.int (2 : Int32)), (.ref br1), (.ref br1)])) _
                      refine XS.bipush Xr3.here hx rfl (hb hby at_472) ?_
                      show Steps p.tables e below (Tr3.setTop (mkF m 474 #[.val (.int p0), .val (.int p1), .val (.int p2), .val (.int p3), .val (.int ((p2 &&& (255 : Int32)).toUInt32.toUInt16.toUInt32.toInt32)), .val (.int ((p3 &&& (255 : Int32)).toUInt32.toUInt16.toUInt32.toInt32)), .val (.int (f_first (p1 &&& (1 : Int32)))), .val (.int ((p0 &&& (2147483647 : Int32)) % (10 : Int32))), .unset, .unset] [(.int (109 : Int32)), (.int (2 : Int32)), (.ref br1), (.ref br1)])) _
                      refine str4 _ ?_
                      show Steps p.tables e below (Tr4.setTop (mkF m 475 #[.val (.int p0), .val (.int p1), .val (.int p2), .val (.int p3), .val (.int ((p2 &&& (255 : Int32)).toUInt32.toUInt16.toUInt32.toInt32)), .val (.int ((p3 &&& (255 : Int32)).toUInt32.toUInt16.toUInt32.toInt32)), .val (.int (f_first (p1 &&& (1 : Int32)))), .val (.int ((p0 &&& (2147483647 : Int32)) % (10 : Int32))), .unset, .unset] [(.ref br1)])) _
                      refine XS.dup Xr4.here hx rfl (hb hby at_475) rfl rfl ?_
                      show Steps p.tables e below (Tr4.setTop (mkF m 476 #[.val (.int p0), .val (.int p1), .val (.int p2), .val (.int p3), .val (.int ((p2 &&& (255 : Int32)).toUInt32.toUInt16.toUInt32.toInt32)), .val (.int ((p3 &&& (255 : Int32)).toUInt32.toUInt16.toUInt32.toInt32)), .val (.int (f_first (p1 &&& (1 : Int32)))), .val (.int ((p0 &&& (2147483647 : Int32)) % (10 : Int32))), .unset, .unset] [(.ref br1), (.ref br1)])) _
                      refine XS.iconst Xr4.here hx rfl (hb hby at_476) ?_
                      show Steps p.tables e below (Tr4.setTop (mkF m 477 #[.val (.int p0), .val (.int p1), .val (.int p2), .val (.int p3), .val (.int ((p2 &&& (255 : Int32)).toUInt32.toUInt16.toUInt32.toInt32)), .val (.int ((p3 &&& (255 : Int32)).toUInt32.toUInt16.toUInt32.toInt32)), .val (.int (f_first (p1 &&& (1 : Int32)))), .val (.int ((p0 &&& (2147483647 : Int32)) % (10 : Int32))), .unset, .unset] [(.int (3 : Int32)), (.ref br1), (.ref br1)])) _
                      refine XS.bipush Xr4.here hx rfl (hb hby at_477) ?_
                      show Steps p.tables e below (Tr4.setTop (mkF m 479 #[.val (.int p0), .val (.int p1), .val (.int p2), .val (.int p3), .val (.int ((p2 &&& (255 : Int32)).toUInt32.toUInt16.toUInt32.toInt32)), .val (.int ((p3 &&& (255 : Int32)).toUInt32.toUInt16.toUInt32.toInt32)), .val (.int (f_first (p1 &&& (1 : Int32)))), .val (.int ((p0 &&& (2147483647 : Int32)) % (10 : Int32))), .unset, .unset] [(.int (112 : Int32)), (.int (3 : Int32)), (.ref br1), (.ref br1)])) _
                      refine str5 _ ?_
                      show Steps p.tables e below (Tr5.setTop (mkF m 480 #[.val (.int p0), .val (.int p1), .val (.int p2), .val (.int p3), .val (.int ((p2 &&& (255 : Int32)).toUInt32.toUInt16.toUInt32.toInt32)), .val (.int ((p3 &&& (255 : Int32)).toUInt32.toUInt16.toUInt32.toInt32)), .val (.int (f_first (p1 &&& (1 : Int32)))), .val (.int ((p0 &&& (2147483647 : Int32)) % (10 : Int32))), .unset, .unset] [(.ref br1)])) _
                      refine XS.dup Xr5.here hx rfl (hb hby at_480) rfl rfl ?_
                      show Steps p.tables e below (Tr5.setTop (mkF m 481 #[.val (.int p0), .val (.int p1), .val (.int p2), .val (.int p3), .val (.int ((p2 &&& (255 : Int32)).toUInt32.toUInt16.toUInt32.toInt32)), .val (.int ((p3 &&& (255 : Int32)).toUInt32.toUInt16.toUInt32.toInt32)), .val (.int (f_first (p1 &&& (1 : Int32)))), .val (.int ((p0 &&& (2147483647 : Int32)) % (10 : Int32))), .unset, .unset] [(.ref br1), (.ref br1)])) _
                      refine XS.iconst Xr5.here hx rfl (hb hby at_481) ?_
                      show Steps p.tables e below (Tr5.setTop (mkF m 482 #[.val (.int p0), .val (.int p1), .val (.int p2), .val (.int p3), .val (.int ((p2 &&& (255 : Int32)).toUInt32.toUInt16.toUInt32.toInt32)), .val (.int ((p3 &&& (255 : Int32)).toUInt32.toUInt16.toUInt32.toInt32)), .val (.int (f_first (p1 &&& (1 : Int32)))), .val (.int ((p0 &&& (2147483647 : Int32)) % (10 : Int32))), .unset, .unset] [(.int (4 : Int32)), (.ref br1), (.ref br1)])) _
                      refine XS.bipush Xr5.here hx rfl (hb hby at_482) ?_
                      show Steps p.tables e below (Tr5.setTop (mkF m 484 #[.val (.int p0), .val (.int p1), .val (.int p2), .val (.int p3), .val (.int ((p2 &&& (255 : Int32)).toUInt32.toUInt16.toUInt32.toInt32)), .val (.int ((p3 &&& (255 : Int32)).toUInt32.toUInt16.toUInt32.toInt32)), .val (.int (f_first (p1 &&& (1 : Int32)))), .val (.int ((p0 &&& (2147483647 : Int32)) % (10 : Int32))), .unset, .unset] [(.int (45 : Int32)), (.int (4 : Int32)), (.ref br1), (.ref br1)])) _
                      refine str6 _ ?_
                      show Steps p.tables e below (Tr6.setTop (mkF m 485 #[.val (.int p0), .val (.int p1), .val (.int p2), .val (.int p3), .val (.int ((p2 &&& (255 : Int32)).toUInt32.toUInt16.toUInt32.toInt32)), .val (.int ((p3 &&& (255 : Int32)).toUInt32.toUInt16.toUInt32.toInt32)), .val (.int (f_first (p1 &&& (1 : Int32)))), .val (.int ((p0 &&& (2147483647 : Int32)) % (10 : Int32))), .unset, .unset] [(.ref br1)])) _
                      refine XS.dup Xr6.here hx rfl (hb hby at_485) rfl rfl ?_
                      show Steps p.tables e below (Tr6.setTop (mkF m 486 #[.val (.int p0), .val (.int p1), .val (.int p2), .val (.int p3), .val (.int ((p2 &&& (255 : Int32)).toUInt32.toUInt16.toUInt32.toInt32)), .val (.int ((p3 &&& (255 : Int32)).toUInt32.toUInt16.toUInt32.toInt32)), .val (.int (f_first (p1 &&& (1 : Int32)))), .val (.int ((p0 &&& (2147483647 : Int32)) % (10 : Int32))), .unset, .unset] [(.ref br1), (.ref br1)])) _
                      refine XS.iconst Xr6.here hx rfl (hb hby at_486) ?_
                      show Steps p.tables e below (Tr6.setTop (mkF m 487 #[.val (.int p0), .val (.int p1), .val (.int p2), .val (.int p3), .val (.int ((p2 &&& (255 : Int32)).toUInt32.toUInt16.toUInt32.toInt32)), .val (.int ((p3 &&& (255 : Int32)).toUInt32.toUInt16.toUInt32.toInt32)), .val (.int (f_first (p1 &&& (1 : Int32)))), .val (.int ((p0 &&& (2147483647 : Int32)) % (10 : Int32))), .unset, .unset] [(.int (5 : Int32)), (.ref br1), (.ref br1)])) _
                      refine XS.bipush Xr6.here hx rfl (hb hby at_487) ?_
                      show Steps p.tables e below (Tr6.setTop (mkF m 489 #[.val (.int p0), .val (.int p1), .val (.int p2), .val (.int p3), .val (.int ((p2 &&& (255 : Int32)).toUInt32.toUInt16.toUInt32.toInt32)), .val (.int ((p3 &&& (255 : Int32)).toUInt32.toUInt16.toUInt32.toInt32)), .val (.int (f_first (p1 &&& (1 : Int32)))), .val (.int ((p0 &&& (2147483647 : Int32)) % (10 : Int32))), .unset, .unset] [(.int (115 : Int32)), (.int (5 : Int32)), (.ref br1), (.ref br1)])) _
                      refine str7 _ ?_
                      show Steps p.tables e below (Tr7.setTop (mkF m 490 #[.val (.int p0), .val (.int p1), .val (.int p2), .val (.int p3), .val (.int ((p2 &&& (255 : Int32)).toUInt32.toUInt16.toUInt32.toInt32)), .val (.int ((p3 &&& (255 : Int32)).toUInt32.toUInt16.toUInt32.toInt32)), .val (.int (f_first (p1 &&& (1 : Int32)))), .val (.int ((p0 &&& (2147483647 : Int32)) % (10 : Int32))), .unset, .unset] [(.ref br1)])) _
                      refine XS.dup Xr7.here hx rfl (hb hby at_490) rfl rfl ?_
                      show Steps p.tables e below (Tr7.setTop (mkF m 491 #[.val (.int p0), .val (.int p1), .val (.int p2), .val (.int p3), .val (.int ((p2 &&& (255 : Int32)).toUInt32.toUInt16.toUInt32.toInt32)), .val (.int ((p3 &&& (255 : Int32)).toUInt32.toUInt16.toUInt32.toInt32)), .val (.int (f_first (p1 &&& (1 : Int32)))), .val (.int ((p0 &&& (2147483647 : Int32)) % (10 : Int32))), .unset, .unset] [(.ref br1), (.ref br1)])) _
                      refine XS.bipush Xr7.here hx rfl (hb hby at_491) ?_
                      show Steps p.tables e below (Tr7.setTop (mkF m 493 #[.val (.int p0), .val (.int p1), .val (.int p2), .val (.int p3), .val (.int ((p2 &&& (255 : Int32)).toUInt32.toUInt16.toUInt32.toInt32)), .val (.int ((p3 &&& (255 : Int32)).toUInt32.toUInt16.toUInt32.toInt32)), .val (.int (f_first (p1 &&& (1 : Int32)))), .val (.int ((p0 &&& (2147483647 : Int32)) % (10 : Int32))), .unset, .unset] [(.int (6 : Int32)), (.ref br1), (.ref br1)])) _
                      refine XS.bipush Xr7.here hx rfl (hb hby at_493) ?_
                      show Steps p.tables e below (Tr7.setTop (mkF m 495 #[.val (.int p0), .val (.int p1), .val (.int p2), .val (.int p3), .val (.int ((p2 &&& (255 : Int32)).toUInt32.toUInt16.toUInt32.toInt32)), .val (.int ((p3 &&& (255 : Int32)).toUInt32.toUInt16.toUInt32.toInt32)), .val (.int (f_first (p1 &&& (1 : Int32)))), .val (.int ((p0 &&& (2147483647 : Int32)) % (10 : Int32))), .unset, .unset] [(.int (117 : Int32)), (.int (6 : Int32)), (.ref br1), (.ref br1)])) _
                      refine str8 _ ?_
                      show Steps p.tables e below (Tr8.setTop (mkF m 496 #[.val (.int p0), .val (.int p1), .val (.int p2), .val (.int p3), .val (.int ((p2 &&& (255 : Int32)).toUInt32.toUInt16.toUInt32.toInt32)), .val (.int ((p3 &&& (255 : Int32)).toUInt32.toUInt16.toUInt32.toInt32)), .val (.int (f_first (p1 &&& (1 : Int32)))), .val (.int ((p0 &&& (2147483647 : Int32)) % (10 : Int32))), .unset, .unset] [(.ref br1)])) _
                      refine XS.astore Xr8.here hx rfl (hb hby at_496) rfl rfl (l' := #[.val (.int p0), .val (.int p1), .val (.int p2), .val (.int p3), .val (.int ((p2 &&& (255 : Int32)).toUInt32.toUInt16.toUInt32.toInt32)), .val (.int ((p3 &&& (255 : Int32)).toUInt32.toUInt16.toUInt32.toInt32)), .val (.int (f_first (p1 &&& (1 : Int32)))), .val (.int ((p0 &&& (2147483647 : Int32)) % (10 : Int32))), .unset, .val (.ref br1)]) rfl ?_
                      show Steps p.tables e below (Tr8.setTop (mkF m 498 #[.val (.int p0), .val (.int p1), .val (.int p2), .val (.int p3), .val (.int ((p2 &&& (255 : Int32)).toUInt32.toUInt16.toUInt32.toInt32)), .val (.int ((p3 &&& (255 : Int32)).toUInt32.toUInt16.toUInt32.toInt32)), .val (.int (f_first (p1 &&& (1 : Int32)))), .val (.int ((p0 &&& (2147483647 : Int32)) % (10 : Int32))), .unset, .val (.ref br1)] [])) _
                      refine str9 _ ?_
                      show Steps p.tables e below (Tr9.setTop (mkF m 501 #[.val (.int p0), .val (.int p1), .val (.int p2), .val (.int p3), .val (.int ((p2 &&& (255 : Int32)).toUInt32.toUInt16.toUInt32.toInt32)), .val (.int ((p3 &&& (255 : Int32)).toUInt32.toUInt16.toUInt32.toInt32)), .val (.int (f_first (p1 &&& (1 : Int32)))), .val (.int ((p0 &&& (2147483647 : Int32)) % (10 : Int32))), .unset, .val (.ref br1)] [(.ref br9)])) _
                      refine XS.dup Xr9.here hx rfl (hb hby at_501) rfl rfl ?_
                      show Steps p.tables e below (Tr9.setTop (mkF m 502 #[.val (.int p0), .val (.int p1), .val (.int p2), .val (.int p3), .val (.int ((p2 &&& (255 : Int32)).toUInt32.toUInt16.toUInt32.toInt32)), .val (.int ((p3 &&& (255 : Int32)).toUInt32.toUInt16.toUInt32.toInt32)), .val (.int (f_first (p1 &&& (1 : Int32)))), .val (.int ((p0 &&& (2147483647 : Int32)) % (10 : Int32))), .unset, .val (.ref br1)] [(.ref br9), (.ref br9)])) _
                      refine XS.aload Xr9.here hx rfl (hb hby at_502) rfl rfl ?_
                      show Steps p.tables e below (Tr9.setTop (mkF m 504 #[.val (.int p0), .val (.int p1), .val (.int p2), .val (.int p3), .val (.int ((p2 &&& (255 : Int32)).toUInt32.toUInt16.toUInt32.toInt32)), .val (.int ((p3 &&& (255 : Int32)).toUInt32.toUInt16.toUInt32.toInt32)), .val (.int (f_first (p1 &&& (1 : Int32)))), .val (.int ((p0 &&& (2147483647 : Int32)) % (10 : Int32))), .unset, .val (.ref br1)] [(.ref br1), (.ref br9), (.ref br9)])) _
                      refine str10.trans ?_
                      show Steps p.tables e below (Tr10.setTop (mkF m 507 #[.val (.int p0), .val (.int p1), .val (.int p2), .val (.int p3), .val (.int ((p2 &&& (255 : Int32)).toUInt32.toUInt16.toUInt32.toInt32)), .val (.int ((p3 &&& (255 : Int32)).toUInt32.toUInt16.toUInt32.toInt32)), .val (.int (f_first (p1 &&& (1 : Int32)))), .val (.int ((p0 &&& (2147483647 : Int32)) % (10 : Int32))), .unset, .val (.ref br1)] [(.ref br9)])) _
                      refine XS.astore Xr10.here hx rfl (hb hby at_507) rfl rfl (l' := #[.val (.int p0), .val (.int p1), .val (.int p2), .val (.int p3), .val (.int ((p2 &&& (255 : Int32)).toUInt32.toUInt16.toUInt32.toInt32)), .val (.int ((p3 &&& (255 : Int32)).toUInt32.toUInt16.toUInt32.toInt32)), .val (.int (f_first (p1 &&& (1 : Int32)))), .val (.int ((p0 &&& (2147483647 : Int32)) % (10 : Int32))), .val (.ref br9), .val (.ref br1)]) rfl ?_
                      show Steps p.tables e below (Tr10.setTop (mkF m 509 #[.val (.int p0), .val (.int p1), .val (.int p2), .val (.int p3), .val (.int ((p2 &&& (255 : Int32)).toUInt32.toUInt16.toUInt32.toInt32)), .val (.int ((p3 &&& (255 : Int32)).toUInt32.toUInt16.toUInt32.toInt32)), .val (.int (f_first (p1 &&& (1 : Int32)))), .val (.int ((p0 &&& (2147483647 : Int32)) % (10 : Int32))), .val (.ref br9), .val (.ref br1)] [])) _
                      refine XS.goto Xr10.here hx rfl (pc0 := 509) (pc' := 632) rfl (hb hby at_509) (by decide) (by decide) ?_
                      show Steps p.tables e below (Tr10.setTop (mkF m 632 #[.val (.int p0), .val (.int p1), .val (.int p2), .val (.int p3), .val (.int ((p2 &&& (255 : Int32)).toUInt32.toUInt16.toUInt32.toInt32)), .val (.int ((p3 &&& (255 : Int32)).toUInt32.toUInt16.toUInt32.toInt32)), .val (.int (f_first (p1 &&& (1 : Int32)))), .val (.int ((p0 &&& (2147483647 : Int32)) % (10 : Int32))), .val (.ref br9), .val (.ref br1)] [])) _
                      exact hst
                    show Steps p.tables e below (s₁.setTop (mkF m 19 #[.val (.int p0), .val (.int p1), .val (.int p2), .val (.int p3), .val (.int ((p2 &&& (255 : Int32)).toUInt32.toUInt16.toUInt32.toInt32)), .val (.int ((p3 &&& (255 : Int32)).toUInt32.toUInt16.toUInt32.toInt32)), .unset, .unset, .unset, .unset] [(.int (p1 &&& (1 : Int32)))])) _
                    by_cases hc19_0 : (p1 &&& (1 : Int32)) = (0 : Int32)
                    · refine XS.ifNo X0.here hx rfl (hb hby at_19) rfl ((if0 _ _).trans (teq hc19_0).2) ?_
                      show Steps p.tables e below (s₁.setTop (mkF m 22 #[.val (.int p0), .val (.int p1), .val (.int p2), .val (.int p3), .val (.int ((p2 &&& (255 : Int32)).toUInt32.toUInt16.toUInt32.toInt32)), .val (.int ((p3 &&& (255 : Int32)).toUInt32.toUInt16.toUInt32.toInt32)), .unset, .unset, .unset, .unset] [])) _
                      refine XS.iconst X0.here hx rfl (hb hby at_22) ?_
                      show Steps p.tables e below (s₁.setTop (mkF m 23 #[.val (.int p0), .val (.int p1), .val (.int p2), .val (.int p3), .val (.int ((p2 &&& (255 : Int32)).toUInt32.toUInt16.toUInt32.toInt32)), .val (.int ((p3 &&& (255 : Int32)).toUInt32.toUInt16.toUInt32.toInt32)), .unset, .unset, .unset, .unset] [(.int (1 : Int32))])) _
                      refine XS.goto X0.here hx rfl (pc0 := 23) (pc' := 27) rfl (hb hby at_23) (by decide) (by decide) ?_
                      show Steps p.tables e below (s₁.setTop (mkF m 27 #[.val (.int p0), .val (.int p1), .val (.int p2), .val (.int p3), .val (.int ((p2 &&& (255 : Int32)).toUInt32.toUInt16.toUInt32.toInt32)), .val (.int ((p3 &&& (255 : Int32)).toUInt32.toUInt16.toUInt32.toInt32)), .unset, .unset, .unset, .unset] [(.int (1 : Int32))])) _
                      have hf : f_first (p1 &&& (1 : Int32)) = (1 : Int32) := by unfold f_first; rw [if_pos hc19_0]
                      rw [hf] at key
                      exact key
                    · refine XS.ifYes X0.here hx rfl (pc0 := 19) (pc' := 26) rfl (hb hby at_19) rfl ((if0 _ _).trans (feq hc19_0).2) (by decide) (by decide) ?_
                      show Steps p.tables e below (s₁.setTop (mkF m 26 #[.val (.int p0), .val (.int p1), .val (.int p2), .val (.int p3), .val (.int ((p2 &&& (255 : Int32)).toUInt32.toUInt16.toUInt32.toInt32)), .val (.int ((p3 &&& (255 : Int32)).toUInt32.toUInt16.toUInt32.toInt32)), .unset, .unset, .unset, .unset] [])) _
                      refine XS.iconst X0.here hx rfl (hb hby at_26) ?_
                      show Steps p.tables e below (s₁.setTop (mkF m 27 #[.val (.int p0), .val (.int p1), .val (.int p2), .val (.int p3), .val (.int ((p2 &&& (255 : Int32)).toUInt32.toUInt16.toUInt32.toInt32)), .val (.int ((p3 &&& (255 : Int32)).toUInt32.toUInt16.toUInt32.toInt32)), .unset, .unset, .unset, .unset] [(.int (0 : Int32))])) _
                      have hf : f_first (p1 &&& (1 : Int32)) = (0 : Int32) := by unfold f_first; rw [if_neg hc19_0]
                      rw [hf] at key
                      exact key
                · by_cases hcase8 : ((p0 &&& (2147483647 : Int32)) % (10 : Int32)) = (8 : Int32)
                  · obtain ⟨ar1, Tr1, hr1, kr1, br1, kcr1, Xr1, er1, Exr1, hSr1, hkr1, hZr1, hownr1, ELr1, CLr1, VLr1, KLr1, lar1, lbr1, CHr1, LTr1, SFr1, str1⟩ := ldcCH (s := s) (vm0 := s.vm) X0 hx hZ hown (hw _ (List.mem_of_getElem? (i := 59) rfl)) wStr e0 hS0 (Nat.le_refl _) hEW (List.mem_of_getElem? (i := 3) rfl) hH0 (vs := ([] : List Int32).map Value.int) (z := Int32.ofNat ([] : List Int32).length) ⟨by decide, by first | rfl | decide⟩ (by decide) (by decide) (g := (mkF m 599 #[.val (.int p0), .val (.int p1), .val (.int p2), .val (.int p3), .val (.int ((p2 &&& (255 : Int32)).toUInt32.toUInt16.toUInt32.toInt32)), .val (.int ((p3 &&& (255 : Int32)).toUInt32.toUInt16.toUInt32.toInt32)), .val (.int (f_first (p1 &&& (1 : Int32)))), .val (.int ((p0 &&& (2147483647 : Int32)) % (10 : Int32))), .unset, .unset] [])) rfl (hb hby at_599) (n := 0) (by decide) (by decide) (by decide) (by decide)
                    have Zr1 : n0 ≤ hr1.size := Nat.le_trans Z0 Exr1.1
                    have S_C' := S_C.ext Exr1
                    have S_L' := S_L.ext Exr1
                    have S_I' := S_I.ext Exr1
                    have W_L' := W_L.ext Exr1
                    have W_I' := W_I.ext Exr1
                    obtain ⟨t, hst, hrun, hended, L, NL, hEnd⟩ := own_end (s := s) (vm0 := Tr1.vm) (.val (.int p0)) (.val (.int p1)) (.val (.int p2)) (.val (.int p3)) (.val (.int ((p2 &&& (255 : Int32)).toUInt32.toUInt16.toUInt32.toInt32))) (.val (.int ((p3 &&& (255 : Int32)).toUInt32.toUInt16.toUInt32.toInt32))) (.val (.int (f_first (p1 &&& (1 : Int32))))) (.val (.int ((p0 &&& (2147483647 : Int32)) % (10 : Int32)))) (.unset) One.u ar1 br1 kcr1 ([] : List Int32) wL wI iC (Xr1.more (by decide) (by decide)) hx Bd.returns Bd.notSynchronized hZr1 hw hby hml hownr1 er1 hSr1 hkr1 N0 Zr1 wStr hEW CHr1.1 S_L' S_I' W_L' W_I' S_C' hC (by decide) ELr1 CLr1 VLr1 KLr1
                    refine ⟨t, _, pre0 _ ?_, hrun, hended, _, L, rfl, ⟨rfl, NL⟩, hEnd⟩
                    show Steps p.tables e below (s₁.setTop (mkF m 0 #[.val (.int p0), .val (.int p1), .val (.int p2), .val (.int p3), .unset, .unset, .unset, .unset, .unset, .unset] [])) _
                    refine XS.iloadN X0.here hx rfl (hb hby at_0) rfl ?_
                    show Steps p.tables e below (s₁.setTop (mkF m 1 #[.val (.int p0), .val (.int p1), .val (.int p2), .val (.int p3), .unset, .unset, .unset, .unset, .unset, .unset] [(.int p2)])) _
                    refine XS.sipush X0.here hx rfl (hb hby at_1) ?_
                    show Steps p.tables e below (s₁.setTop (mkF m 4 #[.val (.int p0), .val (.int p1), .val (.int p2), .val (.int p3), .unset, .unset, .unset, .unset, .unset, .unset] [(.int (255 : Int32)), (.int p2)])) _
                    refine XS.iand X0.here hx rfl (hb hby at_4) rfl ?_
                    show Steps p.tables e below (s₁.setTop (mkF m 5 #[.val (.int p0), .val (.int p1), .val (.int p2), .val (.int p3), .unset, .unset, .unset, .unset, .unset, .unset] [(.int (p2 &&& (255 : Int32)))])) _
                    refine XS.i2c X0.here hx rfl (hb hby at_5) rfl ?_
                    show Steps p.tables e below (s₁.setTop (mkF m 6 #[.val (.int p0), .val (.int p1), .val (.int p2), .val (.int p3), .unset, .unset, .unset, .unset, .unset, .unset] [(.int ((p2 &&& (255 : Int32)).toUInt32.toUInt16.toUInt32.toInt32))])) _
                    refine XS.istore X0.here hx rfl (hb hby at_6) rfl (l' := #[.val (.int p0), .val (.int p1), .val (.int p2), .val (.int p3), .val (.int ((p2 &&& (255 : Int32)).toUInt32.toUInt16.toUInt32.toInt32)), .unset, .unset, .unset, .unset, .unset]) rfl ?_
                    show Steps p.tables e below (s₁.setTop (mkF m 8 #[.val (.int p0), .val (.int p1), .val (.int p2), .val (.int p3), .val (.int ((p2 &&& (255 : Int32)).toUInt32.toUInt16.toUInt32.toInt32)), .unset, .unset, .unset, .unset, .unset] [])) _
                    refine XS.iloadN X0.here hx rfl (hb hby at_8) rfl ?_
                    show Steps p.tables e below (s₁.setTop (mkF m 9 #[.val (.int p0), .val (.int p1), .val (.int p2), .val (.int p3), .val (.int ((p2 &&& (255 : Int32)).toUInt32.toUInt16.toUInt32.toInt32)), .unset, .unset, .unset, .unset, .unset] [(.int p3)])) _
                    refine XS.sipush X0.here hx rfl (hb hby at_9) ?_
                    show Steps p.tables e below (s₁.setTop (mkF m 12 #[.val (.int p0), .val (.int p1), .val (.int p2), .val (.int p3), .val (.int ((p2 &&& (255 : Int32)).toUInt32.toUInt16.toUInt32.toInt32)), .unset, .unset, .unset, .unset, .unset] [(.int (255 : Int32)), (.int p3)])) _
                    refine XS.iand X0.here hx rfl (hb hby at_12) rfl ?_
                    show Steps p.tables e below (s₁.setTop (mkF m 13 #[.val (.int p0), .val (.int p1), .val (.int p2), .val (.int p3), .val (.int ((p2 &&& (255 : Int32)).toUInt32.toUInt16.toUInt32.toInt32)), .unset, .unset, .unset, .unset, .unset] [(.int (p3 &&& (255 : Int32)))])) _
                    refine XS.i2c X0.here hx rfl (hb hby at_13) rfl ?_
                    show Steps p.tables e below (s₁.setTop (mkF m 14 #[.val (.int p0), .val (.int p1), .val (.int p2), .val (.int p3), .val (.int ((p2 &&& (255 : Int32)).toUInt32.toUInt16.toUInt32.toInt32)), .unset, .unset, .unset, .unset, .unset] [(.int ((p3 &&& (255 : Int32)).toUInt32.toUInt16.toUInt32.toInt32))])) _
                    refine XS.istore X0.here hx rfl (hb hby at_14) rfl (l' := #[.val (.int p0), .val (.int p1), .val (.int p2), .val (.int p3), .val (.int ((p2 &&& (255 : Int32)).toUInt32.toUInt16.toUInt32.toInt32)), .val (.int ((p3 &&& (255 : Int32)).toUInt32.toUInt16.toUInt32.toInt32)), .unset, .unset, .unset, .unset]) rfl ?_
                    show Steps p.tables e below (s₁.setTop (mkF m 16 #[.val (.int p0), .val (.int p1), .val (.int p2), .val (.int p3), .val (.int ((p2 &&& (255 : Int32)).toUInt32.toUInt16.toUInt32.toInt32)), .val (.int ((p3 &&& (255 : Int32)).toUInt32.toUInt16.toUInt32.toInt32)), .unset, .unset, .unset, .unset] [])) _
                    refine XS.iloadN X0.here hx rfl (hb hby at_16) rfl ?_
                    show Steps p.tables e below (s₁.setTop (mkF m 17 #[.val (.int p0), .val (.int p1), .val (.int p2), .val (.int p3), .val (.int ((p2 &&& (255 : Int32)).toUInt32.toUInt16.toUInt32.toInt32)), .val (.int ((p3 &&& (255 : Int32)).toUInt32.toUInt16.toUInt32.toInt32)), .unset, .unset, .unset, .unset] [(.int p1)])) _
                    refine XS.iconst X0.here hx rfl (hb hby at_17) ?_
                    show Steps p.tables e below (s₁.setTop (mkF m 18 #[.val (.int p0), .val (.int p1), .val (.int p2), .val (.int p3), .val (.int ((p2 &&& (255 : Int32)).toUInt32.toUInt16.toUInt32.toInt32)), .val (.int ((p3 &&& (255 : Int32)).toUInt32.toUInt16.toUInt32.toInt32)), .unset, .unset, .unset, .unset] [(.int (1 : Int32)), (.int p1)])) _
                    refine XS.iand X0.here hx rfl (hb hby at_18) rfl ?_
                    have key : Steps p.tables e below (s₁.setTop (mkF m 27 #[.val (.int p0), .val (.int p1), .val (.int p2), .val (.int p3), .val (.int ((p2 &&& (255 : Int32)).toUInt32.toUInt16.toUInt32.toInt32)), .val (.int ((p3 &&& (255 : Int32)).toUInt32.toUInt16.toUInt32.toInt32)), .unset, .unset, .unset, .unset] [(.int (f_first (p1 &&& (1 : Int32))))])) t := by
                      show Steps p.tables e below (s₁.setTop (mkF m 27 #[.val (.int p0), .val (.int p1), .val (.int p2), .val (.int p3), .val (.int ((p2 &&& (255 : Int32)).toUInt32.toUInt16.toUInt32.toInt32)), .val (.int ((p3 &&& (255 : Int32)).toUInt32.toUInt16.toUInt32.toInt32)), .unset, .unset, .unset, .unset] [(.int (f_first (p1 &&& (1 : Int32))))])) _
                      refine XS.istore X0.here hx rfl (hb hby at_27) rfl (l' := #[.val (.int p0), .val (.int p1), .val (.int p2), .val (.int p3), .val (.int ((p2 &&& (255 : Int32)).toUInt32.toUInt16.toUInt32.toInt32)), .val (.int ((p3 &&& (255 : Int32)).toUInt32.toUInt16.toUInt32.toInt32)), .val (.int (f_first (p1 &&& (1 : Int32)))), .unset, .unset, .unset]) rfl ?_
                      show Steps p.tables e below (s₁.setTop (mkF m 29 #[.val (.int p0), .val (.int p1), .val (.int p2), .val (.int p3), .val (.int ((p2 &&& (255 : Int32)).toUInt32.toUInt16.toUInt32.toInt32)), .val (.int ((p3 &&& (255 : Int32)).toUInt32.toUInt16.toUInt32.toInt32)), .val (.int (f_first (p1 &&& (1 : Int32)))), .unset, .unset, .unset] [])) _
                      refine XS.iloadN X0.here hx rfl (hb hby at_29) rfl ?_
                      show Steps p.tables e below (s₁.setTop (mkF m 30 #[.val (.int p0), .val (.int p1), .val (.int p2), .val (.int p3), .val (.int ((p2 &&& (255 : Int32)).toUInt32.toUInt16.toUInt32.toInt32)), .val (.int ((p3 &&& (255 : Int32)).toUInt32.toUInt16.toUInt32.toInt32)), .val (.int (f_first (p1 &&& (1 : Int32)))), .unset, .unset, .unset] [(.int p0)])) _
                      refine X0.ldcInt hx hown (mvT hZ (hw _ (List.mem_of_getElem? (i := 0) rfl))) (g := (mkF m 30 #[.val (.int p0), .val (.int p1), .val (.int p2), .val (.int p3), .val (.int ((p2 &&& (255 : Int32)).toUInt32.toUInt16.toUInt32.toInt32)), .val (.int ((p3 &&& (255 : Int32)).toUInt32.toUInt16.toUInt32.toInt32)), .val (.int (f_first (p1 &&& (1 : Int32)))), .unset, .unset, .unset] [(.int p0)])) rfl (hb hby at_30) _ ?_
                      show Steps p.tables e below (s₁.setTop (mkF m 32 #[.val (.int p0), .val (.int p1), .val (.int p2), .val (.int p3), .val (.int ((p2 &&& (255 : Int32)).toUInt32.toUInt16.toUInt32.toInt32)), .val (.int ((p3 &&& (255 : Int32)).toUInt32.toUInt16.toUInt32.toInt32)), .val (.int (f_first (p1 &&& (1 : Int32)))), .unset, .unset, .unset] [(.int (2147483647 : Int32)), (.int p0)])) _
                      refine XS.iand X0.here hx rfl (hb hby at_32) rfl ?_
                      show Steps p.tables e below (s₁.setTop (mkF m 33 #[.val (.int p0), .val (.int p1), .val (.int p2), .val (.int p3), .val (.int ((p2 &&& (255 : Int32)).toUInt32.toUInt16.toUInt32.toInt32)), .val (.int ((p3 &&& (255 : Int32)).toUInt32.toUInt16.toUInt32.toInt32)), .val (.int (f_first (p1 &&& (1 : Int32)))), .unset, .unset, .unset] [(.int (p0 &&& (2147483647 : Int32)))])) _
                      refine XS.bipush X0.here hx rfl (hb hby at_33) ?_
                      show Steps p.tables e below (s₁.setTop (mkF m 35 #[.val (.int p0), .val (.int p1), .val (.int p2), .val (.int p3), .val (.int ((p2 &&& (255 : Int32)).toUInt32.toUInt16.toUInt32.toInt32)), .val (.int ((p3 &&& (255 : Int32)).toUInt32.toUInt16.toUInt32.toInt32)), .val (.int (f_first (p1 &&& (1 : Int32)))), .unset, .unset, .unset] [(.int (10 : Int32)), (.int (p0 &&& (2147483647 : Int32)))])) _
                      refine Jvm.RoadKit.iremM X0 hx rfl (hb hby at_35) rfl (by decide) ?_
                      show Steps p.tables e below (s₁.setTop (mkF m 36 #[.val (.int p0), .val (.int p1), .val (.int p2), .val (.int p3), .val (.int ((p2 &&& (255 : Int32)).toUInt32.toUInt16.toUInt32.toInt32)), .val (.int ((p3 &&& (255 : Int32)).toUInt32.toUInt16.toUInt32.toInt32)), .val (.int (f_first (p1 &&& (1 : Int32)))), .unset, .unset, .unset] [(.int ((p0 &&& (2147483647 : Int32)) % (10 : Int32)))])) _
                      refine XS.istore X0.here hx rfl (hb hby at_36) rfl (l' := #[.val (.int p0), .val (.int p1), .val (.int p2), .val (.int p3), .val (.int ((p2 &&& (255 : Int32)).toUInt32.toUInt16.toUInt32.toInt32)), .val (.int ((p3 &&& (255 : Int32)).toUInt32.toUInt16.toUInt32.toInt32)), .val (.int (f_first (p1 &&& (1 : Int32)))), .val (.int ((p0 &&& (2147483647 : Int32)) % (10 : Int32))), .unset, .unset]) rfl ?_
                      show Steps p.tables e below (s₁.setTop (mkF m 38 #[.val (.int p0), .val (.int p1), .val (.int p2), .val (.int p3), .val (.int ((p2 &&& (255 : Int32)).toUInt32.toUInt16.toUInt32.toInt32)), .val (.int ((p3 &&& (255 : Int32)).toUInt32.toUInt16.toUInt32.toInt32)), .val (.int (f_first (p1 &&& (1 : Int32)))), .val (.int ((p0 &&& (2147483647 : Int32)) % (10 : Int32))), .unset, .unset] [])) _
                      refine XS.iload X0.here hx rfl (hb hby at_38) rfl ?_
                      show Steps p.tables e below (s₁.setTop (mkF m 40 #[.val (.int p0), .val (.int p1), .val (.int p2), .val (.int p3), .val (.int ((p2 &&& (255 : Int32)).toUInt32.toUInt16.toUInt32.toInt32)), .val (.int ((p3 &&& (255 : Int32)).toUInt32.toUInt16.toUInt32.toInt32)), .val (.int (f_first (p1 &&& (1 : Int32)))), .val (.int ((p0 &&& (2147483647 : Int32)) % (10 : Int32))), .unset, .unset] [(.int ((p0 &&& (2147483647 : Int32)) % (10 : Int32)))])) _
                      refine XS.ifYes X0.here hx rfl (pc0 := 40) (pc' := 50) rfl (hb hby at_40) rfl ((if0 _ _).trans (feq hcase0).2) (by decide) (by decide) ?_
                      show Steps p.tables e below (s₁.setTop (mkF m 50 #[.val (.int p0), .val (.int p1), .val (.int p2), .val (.int p3), .val (.int ((p2 &&& (255 : Int32)).toUInt32.toUInt16.toUInt32.toInt32)), .val (.int ((p3 &&& (255 : Int32)).toUInt32.toUInt16.toUInt32.toInt32)), .val (.int (f_first (p1 &&& (1 : Int32)))), .val (.int ((p0 &&& (2147483647 : Int32)) % (10 : Int32))), .unset, .unset] [])) _
                      refine XS.iload X0.here hx rfl (hb hby at_50) rfl ?_
                      show Steps p.tables e below (s₁.setTop (mkF m 52 #[.val (.int p0), .val (.int p1), .val (.int p2), .val (.int p3), .val (.int ((p2 &&& (255 : Int32)).toUInt32.toUInt16.toUInt32.toInt32)), .val (.int ((p3 &&& (255 : Int32)).toUInt32.toUInt16.toUInt32.toInt32)), .val (.int (f_first (p1 &&& (1 : Int32)))), .val (.int ((p0 &&& (2147483647 : Int32)) % (10 : Int32))), .unset, .unset] [(.int ((p0 &&& (2147483647 : Int32)) % (10 : Int32)))])) _
                      refine XS.iconst X0.here hx rfl (hb hby at_52) ?_
                      show Steps p.tables e below (s₁.setTop (mkF m 53 #[.val (.int p0), .val (.int p1), .val (.int p2), .val (.int p3), .val (.int ((p2 &&& (255 : Int32)).toUInt32.toUInt16.toUInt32.toInt32)), .val (.int ((p3 &&& (255 : Int32)).toUInt32.toUInt16.toUInt32.toInt32)), .val (.int (f_first (p1 &&& (1 : Int32)))), .val (.int ((p0 &&& (2147483647 : Int32)) % (10 : Int32))), .unset, .unset] [(.int (1 : Int32)), (.int ((p0 &&& (2147483647 : Int32)) % (10 : Int32)))])) _
                      refine XS.icmpYes X0.here hx rfl (pc0 := 53) (pc' := 63) rfl (hb hby at_53) rfl (feq hcase1).2 (by decide) (by decide) ?_
                      show Steps p.tables e below (s₁.setTop (mkF m 63 #[.val (.int p0), .val (.int p1), .val (.int p2), .val (.int p3), .val (.int ((p2 &&& (255 : Int32)).toUInt32.toUInt16.toUInt32.toInt32)), .val (.int ((p3 &&& (255 : Int32)).toUInt32.toUInt16.toUInt32.toInt32)), .val (.int (f_first (p1 &&& (1 : Int32)))), .val (.int ((p0 &&& (2147483647 : Int32)) % (10 : Int32))), .unset, .unset] [])) _
                      refine XS.iload X0.here hx rfl (hb hby at_63) rfl ?_
                      show Steps p.tables e below (s₁.setTop (mkF m 65 #[.val (.int p0), .val (.int p1), .val (.int p2), .val (.int p3), .val (.int ((p2 &&& (255 : Int32)).toUInt32.toUInt16.toUInt32.toInt32)), .val (.int ((p3 &&& (255 : Int32)).toUInt32.toUInt16.toUInt32.toInt32)), .val (.int (f_first (p1 &&& (1 : Int32)))), .val (.int ((p0 &&& (2147483647 : Int32)) % (10 : Int32))), .unset, .unset] [(.int ((p0 &&& (2147483647 : Int32)) % (10 : Int32)))])) _
                      refine XS.iconst X0.here hx rfl (hb hby at_65) ?_
                      show Steps p.tables e below (s₁.setTop (mkF m 66 #[.val (.int p0), .val (.int p1), .val (.int p2), .val (.int p3), .val (.int ((p2 &&& (255 : Int32)).toUInt32.toUInt16.toUInt32.toInt32)), .val (.int ((p3 &&& (255 : Int32)).toUInt32.toUInt16.toUInt32.toInt32)), .val (.int (f_first (p1 &&& (1 : Int32)))), .val (.int ((p0 &&& (2147483647 : Int32)) % (10 : Int32))), .unset, .unset] [(.int (2 : Int32)), (.int ((p0 &&& (2147483647 : Int32)) % (10 : Int32)))])) _
                      refine XS.icmpYes X0.here hx rfl (pc0 := 66) (pc' := 76) rfl (hb hby at_66) rfl (feq hcase2).2 (by decide) (by decide) ?_
                      show Steps p.tables e below (s₁.setTop (mkF m 76 #[.val (.int p0), .val (.int p1), .val (.int p2), .val (.int p3), .val (.int ((p2 &&& (255 : Int32)).toUInt32.toUInt16.toUInt32.toInt32)), .val (.int ((p3 &&& (255 : Int32)).toUInt32.toUInt16.toUInt32.toInt32)), .val (.int (f_first (p1 &&& (1 : Int32)))), .val (.int ((p0 &&& (2147483647 : Int32)) % (10 : Int32))), .unset, .unset] [])) _
                      refine XS.iload X0.here hx rfl (hb hby at_76) rfl ?_
                      show Steps p.tables e below (s₁.setTop (mkF m 78 #[.val (.int p0), .val (.int p1), .val (.int p2), .val (.int p3), .val (.int ((p2 &&& (255 : Int32)).toUInt32.toUInt16.toUInt32.toInt32)), .val (.int ((p3 &&& (255 : Int32)).toUInt32.toUInt16.toUInt32.toInt32)), .val (.int (f_first (p1 &&& (1 : Int32)))), .val (.int ((p0 &&& (2147483647 : Int32)) % (10 : Int32))), .unset, .unset] [(.int ((p0 &&& (2147483647 : Int32)) % (10 : Int32)))])) _
                      refine XS.iconst X0.here hx rfl (hb hby at_78) ?_
                      show Steps p.tables e below (s₁.setTop (mkF m 79 #[.val (.int p0), .val (.int p1), .val (.int p2), .val (.int p3), .val (.int ((p2 &&& (255 : Int32)).toUInt32.toUInt16.toUInt32.toInt32)), .val (.int ((p3 &&& (255 : Int32)).toUInt32.toUInt16.toUInt32.toInt32)), .val (.int (f_first (p1 &&& (1 : Int32)))), .val (.int ((p0 &&& (2147483647 : Int32)) % (10 : Int32))), .unset, .unset] [(.int (3 : Int32)), (.int ((p0 &&& (2147483647 : Int32)) % (10 : Int32)))])) _
                      refine XS.icmpYes X0.here hx rfl (pc0 := 79) (pc' := 88) rfl (hb hby at_79) rfl (feq hcase3).2 (by decide) (by decide) ?_
                      show Steps p.tables e below (s₁.setTop (mkF m 88 #[.val (.int p0), .val (.int p1), .val (.int p2), .val (.int p3), .val (.int ((p2 &&& (255 : Int32)).toUInt32.toUInt16.toUInt32.toInt32)), .val (.int ((p3 &&& (255 : Int32)).toUInt32.toUInt16.toUInt32.toInt32)), .val (.int (f_first (p1 &&& (1 : Int32)))), .val (.int ((p0 &&& (2147483647 : Int32)) % (10 : Int32))), .unset, .unset] [])) _
                      refine XS.iload X0.here hx rfl (hb hby at_88) rfl ?_
                      show Steps p.tables e below (s₁.setTop (mkF m 90 #[.val (.int p0), .val (.int p1), .val (.int p2), .val (.int p3), .val (.int ((p2 &&& (255 : Int32)).toUInt32.toUInt16.toUInt32.toInt32)), .val (.int ((p3 &&& (255 : Int32)).toUInt32.toUInt16.toUInt32.toInt32)), .val (.int (f_first (p1 &&& (1 : Int32)))), .val (.int ((p0 &&& (2147483647 : Int32)) % (10 : Int32))), .unset, .unset] [(.int ((p0 &&& (2147483647 : Int32)) % (10 : Int32)))])) _
                      refine XS.iconst X0.here hx rfl (hb hby at_90) ?_
                      show Steps p.tables e below (s₁.setTop (mkF m 91 #[.val (.int p0), .val (.int p1), .val (.int p2), .val (.int p3), .val (.int ((p2 &&& (255 : Int32)).toUInt32.toUInt16.toUInt32.toInt32)), .val (.int ((p3 &&& (255 : Int32)).toUInt32.toUInt16.toUInt32.toInt32)), .val (.int (f_first (p1 &&& (1 : Int32)))), .val (.int ((p0 &&& (2147483647 : Int32)) % (10 : Int32))), .unset, .unset] [(.int (4 : Int32)), (.int ((p0 &&& (2147483647 : Int32)) % (10 : Int32)))])) _
                      refine XS.icmpYes X0.here hx rfl (pc0 := 91) (pc' := 168) rfl (hb hby at_91) rfl (feq hcase4).2 (by decide) (by decide) ?_
                      show Steps p.tables e below (s₁.setTop (mkF m 168 #[.val (.int p0), .val (.int p1), .val (.int p2), .val (.int p3), .val (.int ((p2 &&& (255 : Int32)).toUInt32.toUInt16.toUInt32.toInt32)), .val (.int ((p3 &&& (255 : Int32)).toUInt32.toUInt16.toUInt32.toInt32)), .val (.int (f_first (p1 &&& (1 : Int32)))), .val (.int ((p0 &&& (2147483647 : Int32)) % (10 : Int32))), .unset, .unset] [])) _
                      refine XS.iload X0.here hx rfl (hb hby at_168) rfl ?_
                      show Steps p.tables e below (s₁.setTop (mkF m 170 #[.val (.int p0), .val (.int p1), .val (.int p2), .val (.int p3), .val (.int ((p2 &&& (255 : Int32)).toUInt32.toUInt16.toUInt32.toInt32)), .val (.int ((p3 &&& (255 : Int32)).toUInt32.toUInt16.toUInt32.toInt32)), .val (.int (f_first (p1 &&& (1 : Int32)))), .val (.int ((p0 &&& (2147483647 : Int32)) % (10 : Int32))), .unset, .unset] [(.int ((p0 &&& (2147483647 : Int32)) % (10 : Int32)))])) _
                      refine XS.iconst X0.here hx rfl (hb hby at_170) ?_
                      show Steps p.tables e below (s₁.setTop (mkF m 171 #[.val (.int p0), .val (.int p1), .val (.int p2), .val (.int p3), .val (.int ((p2 &&& (255 : Int32)).toUInt32.toUInt16.toUInt32.toInt32)), .val (.int ((p3 &&& (255 : Int32)).toUInt32.toUInt16.toUInt32.toInt32)), .val (.int (f_first (p1 &&& (1 : Int32)))), .val (.int ((p0 &&& (2147483647 : Int32)) % (10 : Int32))), .unset, .unset] [(.int (5 : Int32)), (.int ((p0 &&& (2147483647 : Int32)) % (10 : Int32)))])) _
                      refine XS.icmpYes X0.here hx rfl (pc0 := 171) (pc' := 272) rfl (hb hby at_171) rfl (feq hcase5).2 (by decide) (by decide) ?_
                      show Steps p.tables e below (s₁.setTop (mkF m 272 #[.val (.int p0), .val (.int p1), .val (.int p2), .val (.int p3), .val (.int ((p2 &&& (255 : Int32)).toUInt32.toUInt16.toUInt32.toInt32)), .val (.int ((p3 &&& (255 : Int32)).toUInt32.toUInt16.toUInt32.toInt32)), .val (.int (f_first (p1 &&& (1 : Int32)))), .val (.int ((p0 &&& (2147483647 : Int32)) % (10 : Int32))), .unset, .unset] [])) _
                      refine XS.iload X0.here hx rfl (hb hby at_272) rfl ?_
                      show Steps p.tables e below (s₁.setTop (mkF m 274 #[.val (.int p0), .val (.int p1), .val (.int p2), .val (.int p3), .val (.int ((p2 &&& (255 : Int32)).toUInt32.toUInt16.toUInt32.toInt32)), .val (.int ((p3 &&& (255 : Int32)).toUInt32.toUInt16.toUInt32.toInt32)), .val (.int (f_first (p1 &&& (1 : Int32)))), .val (.int ((p0 &&& (2147483647 : Int32)) % (10 : Int32))), .unset, .unset] [(.int ((p0 &&& (2147483647 : Int32)) % (10 : Int32)))])) _
                      refine XS.bipush X0.here hx rfl (hb hby at_274) ?_
                      show Steps p.tables e below (s₁.setTop (mkF m 276 #[.val (.int p0), .val (.int p1), .val (.int p2), .val (.int p3), .val (.int ((p2 &&& (255 : Int32)).toUInt32.toUInt16.toUInt32.toInt32)), .val (.int ((p3 &&& (255 : Int32)).toUInt32.toUInt16.toUInt32.toInt32)), .val (.int (f_first (p1 &&& (1 : Int32)))), .val (.int ((p0 &&& (2147483647 : Int32)) % (10 : Int32))), .unset, .unset] [(.int (6 : Int32)), (.int ((p0 &&& (2147483647 : Int32)) % (10 : Int32)))])) _
                      refine XS.icmpYes X0.here hx rfl (pc0 := 276) (pc' := 444) rfl (hb hby at_276) rfl (feq hcase6).2 (by decide) (by decide) ?_
                      show Steps p.tables e below (s₁.setTop (mkF m 444 #[.val (.int p0), .val (.int p1), .val (.int p2), .val (.int p3), .val (.int ((p2 &&& (255 : Int32)).toUInt32.toUInt16.toUInt32.toInt32)), .val (.int ((p3 &&& (255 : Int32)).toUInt32.toUInt16.toUInt32.toInt32)), .val (.int (f_first (p1 &&& (1 : Int32)))), .val (.int ((p0 &&& (2147483647 : Int32)) % (10 : Int32))), .unset, .unset] [])) _
                      refine XS.iload X0.here hx rfl (hb hby at_444) rfl ?_
                      show Steps p.tables e below (s₁.setTop (mkF m 446 #[.val (.int p0), .val (.int p1), .val (.int p2), .val (.int p3), .val (.int ((p2 &&& (255 : Int32)).toUInt32.toUInt16.toUInt32.toInt32)), .val (.int ((p3 &&& (255 : Int32)).toUInt32.toUInt16.toUInt32.toInt32)), .val (.int (f_first (p1 &&& (1 : Int32)))), .val (.int ((p0 &&& (2147483647 : Int32)) % (10 : Int32))), .unset, .unset] [(.int ((p0 &&& (2147483647 : Int32)) % (10 : Int32)))])) _
                      refine XS.bipush X0.here hx rfl (hb hby at_446) ?_
                      show Steps p.tables e below (s₁.setTop (mkF m 448 #[.val (.int p0), .val (.int p1), .val (.int p2), .val (.int p3), .val (.int ((p2 &&& (255 : Int32)).toUInt32.toUInt16.toUInt32.toInt32)), .val (.int ((p3 &&& (255 : Int32)).toUInt32.toUInt16.toUInt32.toInt32)), .val (.int (f_first (p1 &&& (1 : Int32)))), .val (.int ((p0 &&& (2147483647 : Int32)) % (10 : Int32))), .unset, .unset] [(.int (7 : Int32)), (.int ((p0 &&& (2147483647 : Int32)) % (10 : Int32)))])) _
                      refine XS.icmpYes X0.here hx rfl (pc0 := 448) (pc' := 592) rfl (hb hby at_448) rfl (feq hcase7).2 (by decide) (by decide) ?_
                      show Steps p.tables e below (s₁.setTop (mkF m 592 #[.val (.int p0), .val (.int p1), .val (.int p2), .val (.int p3), .val (.int ((p2 &&& (255 : Int32)).toUInt32.toUInt16.toUInt32.toInt32)), .val (.int ((p3 &&& (255 : Int32)).toUInt32.toUInt16.toUInt32.toInt32)), .val (.int (f_first (p1 &&& (1 : Int32)))), .val (.int ((p0 &&& (2147483647 : Int32)) % (10 : Int32))), .unset, .unset] [])) _
                      refine XS.iload X0.here hx rfl (hb hby at_592) rfl ?_
                      show Steps p.tables e below (s₁.setTop (mkF m 594 #[.val (.int p0), .val (.int p1), .val (.int p2), .val (.int p3), .val (.int ((p2 &&& (255 : Int32)).toUInt32.toUInt16.toUInt32.toInt32)), .val (.int ((p3 &&& (255 : Int32)).toUInt32.toUInt16.toUInt32.toInt32)), .val (.int (f_first (p1 &&& (1 : Int32)))), .val (.int ((p0 &&& (2147483647 : Int32)) % (10 : Int32))), .unset, .unset] [(.int ((p0 &&& (2147483647 : Int32)) % (10 : Int32)))])) _
                      refine XS.bipush X0.here hx rfl (hb hby at_594) ?_
                      show Steps p.tables e below (s₁.setTop (mkF m 596 #[.val (.int p0), .val (.int p1), .val (.int p2), .val (.int p3), .val (.int ((p2 &&& (255 : Int32)).toUInt32.toUInt16.toUInt32.toInt32)), .val (.int ((p3 &&& (255 : Int32)).toUInt32.toUInt16.toUInt32.toInt32)), .val (.int (f_first (p1 &&& (1 : Int32)))), .val (.int ((p0 &&& (2147483647 : Int32)) % (10 : Int32))), .unset, .unset] [(.int (8 : Int32)), (.int ((p0 &&& (2147483647 : Int32)) % (10 : Int32)))])) _
                      refine XS.icmpNo X0.here hx rfl (hb hby at_596) rfl (teq hcase8).2 ?_
                      show Steps p.tables e below (s₁.setTop (mkF m 599 #[.val (.int p0), .val (.int p1), .val (.int p2), .val (.int p3), .val (.int ((p2 &&& (255 : Int32)).toUInt32.toUInt16.toUInt32.toInt32)), .val (.int ((p3 &&& (255 : Int32)).toUInt32.toUInt16.toUInt32.toInt32)), .val (.int (f_first (p1 &&& (1 : Int32)))), .val (.int ((p0 &&& (2147483647 : Int32)) % (10 : Int32))), .unset, .unset] [])) _
                      refine str1 _ ?_
                      show Steps p.tables e below (Tr1.setTop (mkF m 601 #[.val (.int p0), .val (.int p1), .val (.int p2), .val (.int p3), .val (.int ((p2 &&& (255 : Int32)).toUInt32.toUInt16.toUInt32.toInt32)), .val (.int ((p3 &&& (255 : Int32)).toUInt32.toUInt16.toUInt32.toInt32)), .val (.int (f_first (p1 &&& (1 : Int32)))), .val (.int ((p0 &&& (2147483647 : Int32)) % (10 : Int32))), .unset, .unset] [(.ref ar1)])) _
                      refine XS.astore Xr1.here hx rfl (hb hby at_601) rfl rfl (l' := #[.val (.int p0), .val (.int p1), .val (.int p2), .val (.int p3), .val (.int ((p2 &&& (255 : Int32)).toUInt32.toUInt16.toUInt32.toInt32)), .val (.int ((p3 &&& (255 : Int32)).toUInt32.toUInt16.toUInt32.toInt32)), .val (.int (f_first (p1 &&& (1 : Int32)))), .val (.int ((p0 &&& (2147483647 : Int32)) % (10 : Int32))), .val (.ref ar1), .unset]) rfl ?_
                      show Steps p.tables e below (Tr1.setTop (mkF m 603 #[.val (.int p0), .val (.int p1), .val (.int p2), .val (.int p3), .val (.int ((p2 &&& (255 : Int32)).toUInt32.toUInt16.toUInt32.toInt32)), .val (.int ((p3 &&& (255 : Int32)).toUInt32.toUInt16.toUInt32.toInt32)), .val (.int (f_first (p1 &&& (1 : Int32)))), .val (.int ((p0 &&& (2147483647 : Int32)) % (10 : Int32))), .val (.ref ar1), .unset] [])) _
                      refine XS.goto Xr1.here hx rfl (pc0 := 603) (pc' := 632) rfl (hb hby at_603) (by decide) (by decide) ?_
                      show Steps p.tables e below (Tr1.setTop (mkF m 632 #[.val (.int p0), .val (.int p1), .val (.int p2), .val (.int p3), .val (.int ((p2 &&& (255 : Int32)).toUInt32.toUInt16.toUInt32.toInt32)), .val (.int ((p3 &&& (255 : Int32)).toUInt32.toUInt16.toUInt32.toInt32)), .val (.int (f_first (p1 &&& (1 : Int32)))), .val (.int ((p0 &&& (2147483647 : Int32)) % (10 : Int32))), .val (.ref ar1), .unset] [])) _
                      exact hst
                    show Steps p.tables e below (s₁.setTop (mkF m 19 #[.val (.int p0), .val (.int p1), .val (.int p2), .val (.int p3), .val (.int ((p2 &&& (255 : Int32)).toUInt32.toUInt16.toUInt32.toInt32)), .val (.int ((p3 &&& (255 : Int32)).toUInt32.toUInt16.toUInt32.toInt32)), .unset, .unset, .unset, .unset] [(.int (p1 &&& (1 : Int32)))])) _
                    by_cases hc19_0 : (p1 &&& (1 : Int32)) = (0 : Int32)
                    · refine XS.ifNo X0.here hx rfl (hb hby at_19) rfl ((if0 _ _).trans (teq hc19_0).2) ?_
                      show Steps p.tables e below (s₁.setTop (mkF m 22 #[.val (.int p0), .val (.int p1), .val (.int p2), .val (.int p3), .val (.int ((p2 &&& (255 : Int32)).toUInt32.toUInt16.toUInt32.toInt32)), .val (.int ((p3 &&& (255 : Int32)).toUInt32.toUInt16.toUInt32.toInt32)), .unset, .unset, .unset, .unset] [])) _
                      refine XS.iconst X0.here hx rfl (hb hby at_22) ?_
                      show Steps p.tables e below (s₁.setTop (mkF m 23 #[.val (.int p0), .val (.int p1), .val (.int p2), .val (.int p3), .val (.int ((p2 &&& (255 : Int32)).toUInt32.toUInt16.toUInt32.toInt32)), .val (.int ((p3 &&& (255 : Int32)).toUInt32.toUInt16.toUInt32.toInt32)), .unset, .unset, .unset, .unset] [(.int (1 : Int32))])) _
                      refine XS.goto X0.here hx rfl (pc0 := 23) (pc' := 27) rfl (hb hby at_23) (by decide) (by decide) ?_
                      show Steps p.tables e below (s₁.setTop (mkF m 27 #[.val (.int p0), .val (.int p1), .val (.int p2), .val (.int p3), .val (.int ((p2 &&& (255 : Int32)).toUInt32.toUInt16.toUInt32.toInt32)), .val (.int ((p3 &&& (255 : Int32)).toUInt32.toUInt16.toUInt32.toInt32)), .unset, .unset, .unset, .unset] [(.int (1 : Int32))])) _
                      have hf : f_first (p1 &&& (1 : Int32)) = (1 : Int32) := by unfold f_first; rw [if_pos hc19_0]
                      rw [hf] at key
                      exact key
                    · refine XS.ifYes X0.here hx rfl (pc0 := 19) (pc' := 26) rfl (hb hby at_19) rfl ((if0 _ _).trans (feq hc19_0).2) (by decide) (by decide) ?_
                      show Steps p.tables e below (s₁.setTop (mkF m 26 #[.val (.int p0), .val (.int p1), .val (.int p2), .val (.int p3), .val (.int ((p2 &&& (255 : Int32)).toUInt32.toUInt16.toUInt32.toInt32)), .val (.int ((p3 &&& (255 : Int32)).toUInt32.toUInt16.toUInt32.toInt32)), .unset, .unset, .unset, .unset] [])) _
                      refine XS.iconst X0.here hx rfl (hb hby at_26) ?_
                      show Steps p.tables e below (s₁.setTop (mkF m 27 #[.val (.int p0), .val (.int p1), .val (.int p2), .val (.int p3), .val (.int ((p2 &&& (255 : Int32)).toUInt32.toUInt16.toUInt32.toInt32)), .val (.int ((p3 &&& (255 : Int32)).toUInt32.toUInt16.toUInt32.toInt32)), .unset, .unset, .unset, .unset] [(.int (0 : Int32))])) _
                      have hf : f_first (p1 &&& (1 : Int32)) = (0 : Int32) := by unfold f_first; rw [if_neg hc19_0]
                      rw [hf] at key
                      exact key
                  · have O0 : Old Z n0 h0 := ⟨by rw [← hU, hh, hn0], by rw [← hU, hh]; exact ⟨Nat.le_refl _, fun _ _ q => q⟩⟩
                    obtain ⟨Tr1, hr1, kr1, Xr1, er1, Er1, Ar1, str1⟩ := newP X0 hx hZ (hw _ (List.mem_of_getElem? (i := 37) rfl)) e0 (g := (mkF m 607 #[.val (.int p0), .val (.int p1), .val (.int p2), .val (.int p3), .val (.int ((p2 &&& (255 : Int32)).toUInt32.toUInt16.toUInt32.toInt32)), .val (.int ((p3 &&& (255 : Int32)).toUInt32.toUInt16.toUInt32.toInt32)), .val (.int (f_first (p1 &&& (1 : Int32)))), .val (.int ((p0 &&& (2147483647 : Int32)) % (10 : Int32))), .unset, .unset] [(.int (2 : Int32))])) rfl (hb hby at_607) rfl (by decide) (cap := 2) (by decide) (by decide) (by decide) (by decide)
                    obtain ⟨br1, gr1⟩ : ∃ z, z = h0.size := ⟨_, rfl⟩
                    rw [← gr1] at Ar1 str1
                    have Vr1 : Arv Z hr1 br1 kr1 .char (2 : Int32) [(.int (0 : Int32)), (.int (0 : Int32))] (.int (0 : Int32)) := (Arv.new Ar1 (by decide)).pad (pad_rep [] (.int (0 : Int32)) 2)
                    have g_br1 : n0 ≤ br1 := Nat.le_trans Z0 (Nat.le_of_eq gr1.symm)
                    have Zr1 : n0 ≤ hr1.size := Nat.le_trans Z0 Er1.1
                    have Or1 := O0.ext Er1
                    have G0 := hH0.ext Er1
                    obtain ⟨cr2, Ar2, qr2, Sr2, Mr2, Hr2, Ur2⟩ := id Vr1
                    obtain ⟨Tr2, hr2, Xr2, er2, Wr2, str2⟩ := stC Xr1 hx hZ er1 Ar2 (j := (0 : Int32)) (inb_of Sr2 ⟨(by decide : ¬ ((0 : Int32) < (0 : Int32))), (by decide : (0 : Int32) < (2 : Int32))⟩) (g := (mkF m 613 #[.val (.int p0), .val (.int p1), .val (.int p2), .val (.int p3), .val (.int ((p2 &&& (255 : Int32)).toUInt32.toUInt16.toUInt32.toInt32)), .val (.int ((p3 &&& (255 : Int32)).toUInt32.toUInt16.toUInt32.toInt32)), .val (.int (f_first (p1 &&& (1 : Int32)))), .val (.int ((p0 &&& (2147483647 : Int32)) % (10 : Int32))), .unset, .unset] [(.int ((p2 &&& (255 : Int32)).toUInt32.toUInt16.toUInt32.toInt32)), (.int (0 : Int32)), (.ref br1), (.ref br1)])) rfl rfl (hb hby at_613)
                    have Nr2 := Fr.snoc Xr2 N0 g_br1
                    have Vr2 : Arv Z hr2 br1 kr1 .char (2 : Int32) [(.int (nar .char ((p2 &&& (255 : Int32)).toUInt32.toUInt16.toUInt32.toInt32))), (.int (0 : Int32))] (.int (0 : Int32)) := Arv.set Ar2 qr2 Sr2 Mr2 Hr2 Ur2 (fits_nar_char _) Wr2 0 rfl (Nat.le_of_ble_eq_true rfl)
                    have Zr2 : n0 ≤ hr2.size := Nat.le_trans Zr1 (Keep.of_wr Wr2).1
                    obtain ⟨Lpr2, Xr2, Nr2⟩ := own_pack Xr2 Nr2
                    have Or2 := Or1.wr Wr2 g_br1
                    have Gr2 := G0.wr Wr2 (Safe.arr hZ.alike Ar2 (by decide))
                    obtain ⟨cr3, Ar3, qr3, Sr3, Mr3, Hr3, Ur3⟩ := id Vr2
                    obtain ⟨Tr3, hr3, Xr3, er3, Wr3, str3⟩ := stC Xr2 hx hZ er2 Ar3 (j := (1 : Int32)) (inb_of Sr3 ⟨(by decide : ¬ ((1 : Int32) < (0 : Int32))), (by decide : (1 : Int32) < (2 : Int32))⟩) (g := (mkF m 618 #[.val (.int p0), .val (.int p1), .val (.int p2), .val (.int p3), .val (.int ((p2 &&& (255 : Int32)).toUInt32.toUInt16.toUInt32.toInt32)), .val (.int ((p3 &&& (255 : Int32)).toUInt32.toUInt16.toUInt32.toInt32)), .val (.int (f_first (p1 &&& (1 : Int32)))), .val (.int ((p0 &&& (2147483647 : Int32)) % (10 : Int32))), .unset, .unset] [(.int ((p3 &&& (255 : Int32)).toUInt32.toUInt16.toUInt32.toInt32)), (.int (1 : Int32)), (.ref br1), (.ref br1)])) rfl rfl (hb hby at_618)
                    have Nr3 := Fr.snoc Xr3 Nr2 g_br1
                    have Vr3 : Arv Z hr3 br1 kr1 .char (2 : Int32) [(.int (nar .char ((p2 &&& (255 : Int32)).toUInt32.toUInt16.toUInt32.toInt32))), (.int (nar .char ((p3 &&& (255 : Int32)).toUInt32.toUInt16.toUInt32.toInt32)))] (.int (0 : Int32)) := Arv.set Ar3 qr3 Sr3 Mr3 Hr3 Ur3 (fits_nar_char _) Wr3 1 rfl (Nat.le_of_ble_eq_true rfl)
                    have Zr3 : n0 ≤ hr3.size := Nat.le_trans Zr2 (Keep.of_wr Wr3).1
                    obtain ⟨Lpr3, Xr3, Nr3⟩ := own_pack Xr3 Nr3
                    have Or3 := Or2.wr Wr3 g_br1
                    have Gr3 := Gr2.wr Wr3 (Safe.arr hZ.alike Ar3 (by decide))
                    have hp : ∀ c ∈ ([(nar .char ((p2 &&& (255 : Int32)).toUInt32.toUInt16.toUInt32.toInt32)), (nar .char ((p3 &&& (255 : Int32)).toUInt32.toUInt16.toUInt32.toInt32))] : List Int32), ¬ c < 0 ∧ ¬ (255 : Int32) < c := by
                      intro c hc
                      simp only [List.mem_cons, List.not_mem_nil, or_false] at hc
                      rcases hc with rfl | rfl
                      · exact and255_chars p2
                      · exact and255_chars p3
                    obtain ⟨cs, hl, hp, Vcs⟩ : ∃ cs : List Int32, cs.length = 2 ∧ (∀ c ∈ cs, ¬ c < 0 ∧ ¬ (255 : Int32) < c) ∧ Arv Z hr3 br1 kr1 .char (2 : Int32) (cs.map Value.int) (.int (0 : Int32)) := ⟨([(nar .char ((p2 &&& (255 : Int32)).toUInt32.toUInt16.toUInt32.toInt32)), (nar .char ((p3 &&& (255 : Int32)).toUInt32.toUInt16.toUInt32.toInt32))] : List Int32), rfl, hp, Vr3⟩
                    obtain ⟨Tr4, hr4, Xr4, er4, Er4, Ar4, Dr4, -, str4⟩ := newO Xr3 hx hZ hown (hw _ (List.mem_of_getElem? (i := 38) rfl)) (hw _ (List.mem_of_getElem? (i := 3) rfl)) (hw _ (List.mem_of_getElem? (i := 2) rfl)) er3 (g := (mkF m 621 #[.val (.int p0), .val (.int p1), .val (.int p2), .val (.int p3), .val (.int ((p2 &&& (255 : Int32)).toUInt32.toUInt16.toUInt32.toInt32)), .val (.int ((p3 &&& (255 : Int32)).toUInt32.toUInt16.toUInt32.toInt32)), .val (.int (f_first (p1 &&& (1 : Int32)))), .val (.int ((p0 &&& (2147483647 : Int32)) % (10 : Int32))), .unset, .val (.ref br1)] [])) rfl (hb hby at_621) (by decide) (by decide)
                    obtain ⟨br4, gr4⟩ : ∃ z, z = hr3.size := ⟨_, rfl⟩
                    rw [← gr4] at Ar4 Dr4 str4
                    have Fvr4 : Fld Z hr4 br4 "java/lang/String" "value" "[B" .null := Dr4 (Or.inr (hw _ (List.mem_of_getElem? (i := 5) rfl))) (ty := (.array .byte)) (by decide)
                    have Fcr4 : Fld Z hr4 br4 "java/lang/String" "coder" "B" (.int (0 : Int32)) := Dr4 (Or.inr (hw _ (List.mem_of_getElem? (i := 6) rfl))) (ty := .byte) (by decide)
                    have g_br4 : n0 ≤ br4 := Nat.le_trans Zr3 (Nat.le_of_eq gr4.symm)
                    have Zr4 : n0 ≤ hr4.size := Nat.le_trans Zr3 Er4.1
                    have Or4 := Or3.ext Er4
                    have Sfr4 := Safe.ext Er4 Gr3 (Safe.new (Nat.le_of_eq gr4.symm))
                    have Gr4 := Gr3.ext Er4
                    obtain ⟨_, _, ⟨Tr5, Lr5, kr5, nr5⟩, -, Xr5, ⟨Lcr5, hQr5, lr5, yr5, zr5⟩, str5⟩ := Xr4.specialBack hx (y := (⟨"java/lang/String", "<init>", "([C)V"⟩ : MethodName)) rfl hown (mvT hZ (hw _ (List.mem_of_getElem? (i := 39) rfl))) (mvT hZ (hw _ (List.mem_of_getElem? (i := 40) rfl))) (mvT hZ (hw _ (List.mem_of_getElem? (i := 41) rfl))) (by decide) (StrChars.Road.backV (W := 1) hZ hws (kI := 4) (hw _ (List.mem_of_getElem? (i := 3) rfl)) (cs := cs) (bs := (cs.map (fun c => c.toInt8.toInt32))) (n := 2) g_br4 Zr4 Ar4 Fvr4 Fcr4 (Vcs.ext Er4) (S_C.ext (own_oldE hZh Or4)) hC hl rfl (by decide) (by decide) hp rfl (by decide) (by decide)) (g := (mkF m 627 #[.val (.int p0), .val (.int p1), .val (.int p2), .val (.int p3), .val (.int ((p2 &&& (255 : Int32)).toUInt32.toUInt16.toUInt32.toInt32)), .val (.int ((p3 &&& (255 : Int32)).toUInt32.toUInt16.toUInt32.toInt32)), .val (.int (f_first (p1 &&& (1 : Int32)))), .val (.int ((p0 &&& (2147483647 : Int32)) % (10 : Int32))), .unset, .val (.ref br1)] [(.ref br1), (.ref br4), (.ref br4)])) rfl (by rw [hml]; rfl) (Steps.refl _) (a := br4) (argsL := [(.ref br1)]) (rest := [(.ref br4)]) (lenOf pd_law_2 rfl) rfl (by show 2 * 0 + _ ≤ _; exact Nat.le_of_eq rfl) (hb hby at_627) (fun _ _ => ⟨rfl, er4, (by decide : 2 + 1 ≤ _), (by decide : 6 + 2 ≤ _)⟩)
                    dsimp only [Pt.U, Pt.locs, Pt.cells, Pt.slots] at Xr5 lr5 yr5 zr5 str5 hQr5
                    subst lr5 yr5 zr5
                    obtain ⟨rfl, Nr5q, Kr5, EN, CN, tN, kN, u1, u2, u3, VN, KN⟩ := hQr5
                    have Nr5 := Fr.app Nr3 Nr5q
                    obtain ⟨Lpr5, Xr5, Nr5⟩ := own_pack Xr5 Nr5
                    have Or5 := Or4.keep Kr5 (allS g_br4 all0)
                    have Zr5 : n0 ≤ Tr5.heap.size := Nat.le_trans Zr4 Kr5.1
                    have Gr5 := Gr4.keep Kr5 (allS Sfr4 all0)
                    have hlb : (cs.map (fun c => c.toInt8.toInt32)).length = 2 := by rw [List.length_map]; exact hl
                    have KN' : Arv Z Tr5.heap tN kN .byte (Int32.ofNat (cs.map (fun c => c.toInt8.toInt32)).length) ((cs.map (fun c => c.toInt8.toInt32)).map Value.int) (.int (0 : Int32)) := by rw [hlb]; exact KN
                    have OE := own_oldE hZh Or5
                    have S_C' := S_C.ext OE
                    have S_L' := S_L.ext OE
                    have S_I' := S_I.ext OE
                    have W_L' := W_L.ext OE
                    have W_I' := W_I.ext OE
                    obtain ⟨t, hst, hrun, hended, L, NL, hEnd⟩ := own_end (s := s) (vm0 := s.vm) (.val (.int p0)) (.val (.int p1)) (.val (.int p2)) (.val (.int p3)) (.val (.int ((p2 &&& (255 : Int32)).toUInt32.toUInt16.toUInt32.toInt32))) (.val (.int ((p3 &&& (255 : Int32)).toUInt32.toUInt16.toUInt32.toInt32))) (.val (.int (f_first (p1 &&& (1 : Int32))))) (.val (.int ((p0 &&& (2147483647 : Int32)) % (10 : Int32)))) (.val (.ref br1)) (One.val rfl) br4 tN kN (cs.map (fun c => c.toInt8.toInt32)) wL wI iC (Xr5.more (by decide) (by decide)) hx Bd.returns Bd.notSynchronized hZ hw hby hml hown rfl hS0 (Nat.le_trans (Nat.le_of_eq hn0.symm) Zr5) Nr5 Zr5 wStr hEW Gr5 S_L' S_I' W_L' W_I' S_C' hC (by rw [hlb]; decide) EN CN VN KN'
                    refine ⟨t, _, pre0 _ ?_, hrun, hended, _, L, rfl, ⟨rfl, NL⟩, hEnd⟩
                    show Steps p.tables e below (s₁.setTop (mkF m 0 #[.val (.int p0), .val (.int p1), .val (.int p2), .val (.int p3), .unset, .unset, .unset, .unset, .unset, .unset] [])) _
                    refine XS.iloadN X0.here hx rfl (hb hby at_0) rfl ?_
                    show Steps p.tables e below (s₁.setTop (mkF m 1 #[.val (.int p0), .val (.int p1), .val (.int p2), .val (.int p3), .unset, .unset, .unset, .unset, .unset, .unset] [(.int p2)])) _
                    refine XS.sipush X0.here hx rfl (hb hby at_1) ?_
                    show Steps p.tables e below (s₁.setTop (mkF m 4 #[.val (.int p0), .val (.int p1), .val (.int p2), .val (.int p3), .unset, .unset, .unset, .unset, .unset, .unset] [(.int (255 : Int32)), (.int p2)])) _
                    refine XS.iand X0.here hx rfl (hb hby at_4) rfl ?_
                    show Steps p.tables e below (s₁.setTop (mkF m 5 #[.val (.int p0), .val (.int p1), .val (.int p2), .val (.int p3), .unset, .unset, .unset, .unset, .unset, .unset] [(.int (p2 &&& (255 : Int32)))])) _
                    refine XS.i2c X0.here hx rfl (hb hby at_5) rfl ?_
                    show Steps p.tables e below (s₁.setTop (mkF m 6 #[.val (.int p0), .val (.int p1), .val (.int p2), .val (.int p3), .unset, .unset, .unset, .unset, .unset, .unset] [(.int ((p2 &&& (255 : Int32)).toUInt32.toUInt16.toUInt32.toInt32))])) _
                    refine XS.istore X0.here hx rfl (hb hby at_6) rfl (l' := #[.val (.int p0), .val (.int p1), .val (.int p2), .val (.int p3), .val (.int ((p2 &&& (255 : Int32)).toUInt32.toUInt16.toUInt32.toInt32)), .unset, .unset, .unset, .unset, .unset]) rfl ?_
                    show Steps p.tables e below (s₁.setTop (mkF m 8 #[.val (.int p0), .val (.int p1), .val (.int p2), .val (.int p3), .val (.int ((p2 &&& (255 : Int32)).toUInt32.toUInt16.toUInt32.toInt32)), .unset, .unset, .unset, .unset, .unset] [])) _
                    refine XS.iloadN X0.here hx rfl (hb hby at_8) rfl ?_
                    show Steps p.tables e below (s₁.setTop (mkF m 9 #[.val (.int p0), .val (.int p1), .val (.int p2), .val (.int p3), .val (.int ((p2 &&& (255 : Int32)).toUInt32.toUInt16.toUInt32.toInt32)), .unset, .unset, .unset, .unset, .unset] [(.int p3)])) _
                    refine XS.sipush X0.here hx rfl (hb hby at_9) ?_
                    show Steps p.tables e below (s₁.setTop (mkF m 12 #[.val (.int p0), .val (.int p1), .val (.int p2), .val (.int p3), .val (.int ((p2 &&& (255 : Int32)).toUInt32.toUInt16.toUInt32.toInt32)), .unset, .unset, .unset, .unset, .unset] [(.int (255 : Int32)), (.int p3)])) _
                    refine XS.iand X0.here hx rfl (hb hby at_12) rfl ?_
                    show Steps p.tables e below (s₁.setTop (mkF m 13 #[.val (.int p0), .val (.int p1), .val (.int p2), .val (.int p3), .val (.int ((p2 &&& (255 : Int32)).toUInt32.toUInt16.toUInt32.toInt32)), .unset, .unset, .unset, .unset, .unset] [(.int (p3 &&& (255 : Int32)))])) _
                    refine XS.i2c X0.here hx rfl (hb hby at_13) rfl ?_
                    show Steps p.tables e below (s₁.setTop (mkF m 14 #[.val (.int p0), .val (.int p1), .val (.int p2), .val (.int p3), .val (.int ((p2 &&& (255 : Int32)).toUInt32.toUInt16.toUInt32.toInt32)), .unset, .unset, .unset, .unset, .unset] [(.int ((p3 &&& (255 : Int32)).toUInt32.toUInt16.toUInt32.toInt32))])) _
                    refine XS.istore X0.here hx rfl (hb hby at_14) rfl (l' := #[.val (.int p0), .val (.int p1), .val (.int p2), .val (.int p3), .val (.int ((p2 &&& (255 : Int32)).toUInt32.toUInt16.toUInt32.toInt32)), .val (.int ((p3 &&& (255 : Int32)).toUInt32.toUInt16.toUInt32.toInt32)), .unset, .unset, .unset, .unset]) rfl ?_
                    show Steps p.tables e below (s₁.setTop (mkF m 16 #[.val (.int p0), .val (.int p1), .val (.int p2), .val (.int p3), .val (.int ((p2 &&& (255 : Int32)).toUInt32.toUInt16.toUInt32.toInt32)), .val (.int ((p3 &&& (255 : Int32)).toUInt32.toUInt16.toUInt32.toInt32)), .unset, .unset, .unset, .unset] [])) _
                    refine XS.iloadN X0.here hx rfl (hb hby at_16) rfl ?_
                    show Steps p.tables e below (s₁.setTop (mkF m 17 #[.val (.int p0), .val (.int p1), .val (.int p2), .val (.int p3), .val (.int ((p2 &&& (255 : Int32)).toUInt32.toUInt16.toUInt32.toInt32)), .val (.int ((p3 &&& (255 : Int32)).toUInt32.toUInt16.toUInt32.toInt32)), .unset, .unset, .unset, .unset] [(.int p1)])) _
                    refine XS.iconst X0.here hx rfl (hb hby at_17) ?_
                    show Steps p.tables e below (s₁.setTop (mkF m 18 #[.val (.int p0), .val (.int p1), .val (.int p2), .val (.int p3), .val (.int ((p2 &&& (255 : Int32)).toUInt32.toUInt16.toUInt32.toInt32)), .val (.int ((p3 &&& (255 : Int32)).toUInt32.toUInt16.toUInt32.toInt32)), .unset, .unset, .unset, .unset] [(.int (1 : Int32)), (.int p1)])) _
                    refine XS.iand X0.here hx rfl (hb hby at_18) rfl ?_
                    have key : Steps p.tables e below (s₁.setTop (mkF m 27 #[.val (.int p0), .val (.int p1), .val (.int p2), .val (.int p3), .val (.int ((p2 &&& (255 : Int32)).toUInt32.toUInt16.toUInt32.toInt32)), .val (.int ((p3 &&& (255 : Int32)).toUInt32.toUInt16.toUInt32.toInt32)), .unset, .unset, .unset, .unset] [(.int (f_first (p1 &&& (1 : Int32))))])) t := by
                      show Steps p.tables e below (s₁.setTop (mkF m 27 #[.val (.int p0), .val (.int p1), .val (.int p2), .val (.int p3), .val (.int ((p2 &&& (255 : Int32)).toUInt32.toUInt16.toUInt32.toInt32)), .val (.int ((p3 &&& (255 : Int32)).toUInt32.toUInt16.toUInt32.toInt32)), .unset, .unset, .unset, .unset] [(.int (f_first (p1 &&& (1 : Int32))))])) _
                      refine XS.istore X0.here hx rfl (hb hby at_27) rfl (l' := #[.val (.int p0), .val (.int p1), .val (.int p2), .val (.int p3), .val (.int ((p2 &&& (255 : Int32)).toUInt32.toUInt16.toUInt32.toInt32)), .val (.int ((p3 &&& (255 : Int32)).toUInt32.toUInt16.toUInt32.toInt32)), .val (.int (f_first (p1 &&& (1 : Int32)))), .unset, .unset, .unset]) rfl ?_
                      show Steps p.tables e below (s₁.setTop (mkF m 29 #[.val (.int p0), .val (.int p1), .val (.int p2), .val (.int p3), .val (.int ((p2 &&& (255 : Int32)).toUInt32.toUInt16.toUInt32.toInt32)), .val (.int ((p3 &&& (255 : Int32)).toUInt32.toUInt16.toUInt32.toInt32)), .val (.int (f_first (p1 &&& (1 : Int32)))), .unset, .unset, .unset] [])) _
                      refine XS.iloadN X0.here hx rfl (hb hby at_29) rfl ?_
                      show Steps p.tables e below (s₁.setTop (mkF m 30 #[.val (.int p0), .val (.int p1), .val (.int p2), .val (.int p3), .val (.int ((p2 &&& (255 : Int32)).toUInt32.toUInt16.toUInt32.toInt32)), .val (.int ((p3 &&& (255 : Int32)).toUInt32.toUInt16.toUInt32.toInt32)), .val (.int (f_first (p1 &&& (1 : Int32)))), .unset, .unset, .unset] [(.int p0)])) _
                      refine X0.ldcInt hx hown (mvT hZ (hw _ (List.mem_of_getElem? (i := 0) rfl))) (g := (mkF m 30 #[.val (.int p0), .val (.int p1), .val (.int p2), .val (.int p3), .val (.int ((p2 &&& (255 : Int32)).toUInt32.toUInt16.toUInt32.toInt32)), .val (.int ((p3 &&& (255 : Int32)).toUInt32.toUInt16.toUInt32.toInt32)), .val (.int (f_first (p1 &&& (1 : Int32)))), .unset, .unset, .unset] [(.int p0)])) rfl (hb hby at_30) _ ?_
                      show Steps p.tables e below (s₁.setTop (mkF m 32 #[.val (.int p0), .val (.int p1), .val (.int p2), .val (.int p3), .val (.int ((p2 &&& (255 : Int32)).toUInt32.toUInt16.toUInt32.toInt32)), .val (.int ((p3 &&& (255 : Int32)).toUInt32.toUInt16.toUInt32.toInt32)), .val (.int (f_first (p1 &&& (1 : Int32)))), .unset, .unset, .unset] [(.int (2147483647 : Int32)), (.int p0)])) _
                      refine XS.iand X0.here hx rfl (hb hby at_32) rfl ?_
                      show Steps p.tables e below (s₁.setTop (mkF m 33 #[.val (.int p0), .val (.int p1), .val (.int p2), .val (.int p3), .val (.int ((p2 &&& (255 : Int32)).toUInt32.toUInt16.toUInt32.toInt32)), .val (.int ((p3 &&& (255 : Int32)).toUInt32.toUInt16.toUInt32.toInt32)), .val (.int (f_first (p1 &&& (1 : Int32)))), .unset, .unset, .unset] [(.int (p0 &&& (2147483647 : Int32)))])) _
                      refine XS.bipush X0.here hx rfl (hb hby at_33) ?_
                      show Steps p.tables e below (s₁.setTop (mkF m 35 #[.val (.int p0), .val (.int p1), .val (.int p2), .val (.int p3), .val (.int ((p2 &&& (255 : Int32)).toUInt32.toUInt16.toUInt32.toInt32)), .val (.int ((p3 &&& (255 : Int32)).toUInt32.toUInt16.toUInt32.toInt32)), .val (.int (f_first (p1 &&& (1 : Int32)))), .unset, .unset, .unset] [(.int (10 : Int32)), (.int (p0 &&& (2147483647 : Int32)))])) _
                      refine Jvm.RoadKit.iremM X0 hx rfl (hb hby at_35) rfl (by decide) ?_
                      show Steps p.tables e below (s₁.setTop (mkF m 36 #[.val (.int p0), .val (.int p1), .val (.int p2), .val (.int p3), .val (.int ((p2 &&& (255 : Int32)).toUInt32.toUInt16.toUInt32.toInt32)), .val (.int ((p3 &&& (255 : Int32)).toUInt32.toUInt16.toUInt32.toInt32)), .val (.int (f_first (p1 &&& (1 : Int32)))), .unset, .unset, .unset] [(.int ((p0 &&& (2147483647 : Int32)) % (10 : Int32)))])) _
                      refine XS.istore X0.here hx rfl (hb hby at_36) rfl (l' := #[.val (.int p0), .val (.int p1), .val (.int p2), .val (.int p3), .val (.int ((p2 &&& (255 : Int32)).toUInt32.toUInt16.toUInt32.toInt32)), .val (.int ((p3 &&& (255 : Int32)).toUInt32.toUInt16.toUInt32.toInt32)), .val (.int (f_first (p1 &&& (1 : Int32)))), .val (.int ((p0 &&& (2147483647 : Int32)) % (10 : Int32))), .unset, .unset]) rfl ?_
                      show Steps p.tables e below (s₁.setTop (mkF m 38 #[.val (.int p0), .val (.int p1), .val (.int p2), .val (.int p3), .val (.int ((p2 &&& (255 : Int32)).toUInt32.toUInt16.toUInt32.toInt32)), .val (.int ((p3 &&& (255 : Int32)).toUInt32.toUInt16.toUInt32.toInt32)), .val (.int (f_first (p1 &&& (1 : Int32)))), .val (.int ((p0 &&& (2147483647 : Int32)) % (10 : Int32))), .unset, .unset] [])) _
                      refine XS.iload X0.here hx rfl (hb hby at_38) rfl ?_
                      show Steps p.tables e below (s₁.setTop (mkF m 40 #[.val (.int p0), .val (.int p1), .val (.int p2), .val (.int p3), .val (.int ((p2 &&& (255 : Int32)).toUInt32.toUInt16.toUInt32.toInt32)), .val (.int ((p3 &&& (255 : Int32)).toUInt32.toUInt16.toUInt32.toInt32)), .val (.int (f_first (p1 &&& (1 : Int32)))), .val (.int ((p0 &&& (2147483647 : Int32)) % (10 : Int32))), .unset, .unset] [(.int ((p0 &&& (2147483647 : Int32)) % (10 : Int32)))])) _
                      refine XS.ifYes X0.here hx rfl (pc0 := 40) (pc' := 50) rfl (hb hby at_40) rfl ((if0 _ _).trans (feq hcase0).2) (by decide) (by decide) ?_
                      show Steps p.tables e below (s₁.setTop (mkF m 50 #[.val (.int p0), .val (.int p1), .val (.int p2), .val (.int p3), .val (.int ((p2 &&& (255 : Int32)).toUInt32.toUInt16.toUInt32.toInt32)), .val (.int ((p3 &&& (255 : Int32)).toUInt32.toUInt16.toUInt32.toInt32)), .val (.int (f_first (p1 &&& (1 : Int32)))), .val (.int ((p0 &&& (2147483647 : Int32)) % (10 : Int32))), .unset, .unset] [])) _
                      refine XS.iload X0.here hx rfl (hb hby at_50) rfl ?_
                      show Steps p.tables e below (s₁.setTop (mkF m 52 #[.val (.int p0), .val (.int p1), .val (.int p2), .val (.int p3), .val (.int ((p2 &&& (255 : Int32)).toUInt32.toUInt16.toUInt32.toInt32)), .val (.int ((p3 &&& (255 : Int32)).toUInt32.toUInt16.toUInt32.toInt32)), .val (.int (f_first (p1 &&& (1 : Int32)))), .val (.int ((p0 &&& (2147483647 : Int32)) % (10 : Int32))), .unset, .unset] [(.int ((p0 &&& (2147483647 : Int32)) % (10 : Int32)))])) _
                      refine XS.iconst X0.here hx rfl (hb hby at_52) ?_
                      show Steps p.tables e below (s₁.setTop (mkF m 53 #[.val (.int p0), .val (.int p1), .val (.int p2), .val (.int p3), .val (.int ((p2 &&& (255 : Int32)).toUInt32.toUInt16.toUInt32.toInt32)), .val (.int ((p3 &&& (255 : Int32)).toUInt32.toUInt16.toUInt32.toInt32)), .val (.int (f_first (p1 &&& (1 : Int32)))), .val (.int ((p0 &&& (2147483647 : Int32)) % (10 : Int32))), .unset, .unset] [(.int (1 : Int32)), (.int ((p0 &&& (2147483647 : Int32)) % (10 : Int32)))])) _
                      refine XS.icmpYes X0.here hx rfl (pc0 := 53) (pc' := 63) rfl (hb hby at_53) rfl (feq hcase1).2 (by decide) (by decide) ?_
                      show Steps p.tables e below (s₁.setTop (mkF m 63 #[.val (.int p0), .val (.int p1), .val (.int p2), .val (.int p3), .val (.int ((p2 &&& (255 : Int32)).toUInt32.toUInt16.toUInt32.toInt32)), .val (.int ((p3 &&& (255 : Int32)).toUInt32.toUInt16.toUInt32.toInt32)), .val (.int (f_first (p1 &&& (1 : Int32)))), .val (.int ((p0 &&& (2147483647 : Int32)) % (10 : Int32))), .unset, .unset] [])) _
                      refine XS.iload X0.here hx rfl (hb hby at_63) rfl ?_
                      show Steps p.tables e below (s₁.setTop (mkF m 65 #[.val (.int p0), .val (.int p1), .val (.int p2), .val (.int p3), .val (.int ((p2 &&& (255 : Int32)).toUInt32.toUInt16.toUInt32.toInt32)), .val (.int ((p3 &&& (255 : Int32)).toUInt32.toUInt16.toUInt32.toInt32)), .val (.int (f_first (p1 &&& (1 : Int32)))), .val (.int ((p0 &&& (2147483647 : Int32)) % (10 : Int32))), .unset, .unset] [(.int ((p0 &&& (2147483647 : Int32)) % (10 : Int32)))])) _
                      refine XS.iconst X0.here hx rfl (hb hby at_65) ?_
                      show Steps p.tables e below (s₁.setTop (mkF m 66 #[.val (.int p0), .val (.int p1), .val (.int p2), .val (.int p3), .val (.int ((p2 &&& (255 : Int32)).toUInt32.toUInt16.toUInt32.toInt32)), .val (.int ((p3 &&& (255 : Int32)).toUInt32.toUInt16.toUInt32.toInt32)), .val (.int (f_first (p1 &&& (1 : Int32)))), .val (.int ((p0 &&& (2147483647 : Int32)) % (10 : Int32))), .unset, .unset] [(.int (2 : Int32)), (.int ((p0 &&& (2147483647 : Int32)) % (10 : Int32)))])) _
                      refine XS.icmpYes X0.here hx rfl (pc0 := 66) (pc' := 76) rfl (hb hby at_66) rfl (feq hcase2).2 (by decide) (by decide) ?_
                      show Steps p.tables e below (s₁.setTop (mkF m 76 #[.val (.int p0), .val (.int p1), .val (.int p2), .val (.int p3), .val (.int ((p2 &&& (255 : Int32)).toUInt32.toUInt16.toUInt32.toInt32)), .val (.int ((p3 &&& (255 : Int32)).toUInt32.toUInt16.toUInt32.toInt32)), .val (.int (f_first (p1 &&& (1 : Int32)))), .val (.int ((p0 &&& (2147483647 : Int32)) % (10 : Int32))), .unset, .unset] [])) _
                      refine XS.iload X0.here hx rfl (hb hby at_76) rfl ?_
                      show Steps p.tables e below (s₁.setTop (mkF m 78 #[.val (.int p0), .val (.int p1), .val (.int p2), .val (.int p3), .val (.int ((p2 &&& (255 : Int32)).toUInt32.toUInt16.toUInt32.toInt32)), .val (.int ((p3 &&& (255 : Int32)).toUInt32.toUInt16.toUInt32.toInt32)), .val (.int (f_first (p1 &&& (1 : Int32)))), .val (.int ((p0 &&& (2147483647 : Int32)) % (10 : Int32))), .unset, .unset] [(.int ((p0 &&& (2147483647 : Int32)) % (10 : Int32)))])) _
                      refine XS.iconst X0.here hx rfl (hb hby at_78) ?_
                      show Steps p.tables e below (s₁.setTop (mkF m 79 #[.val (.int p0), .val (.int p1), .val (.int p2), .val (.int p3), .val (.int ((p2 &&& (255 : Int32)).toUInt32.toUInt16.toUInt32.toInt32)), .val (.int ((p3 &&& (255 : Int32)).toUInt32.toUInt16.toUInt32.toInt32)), .val (.int (f_first (p1 &&& (1 : Int32)))), .val (.int ((p0 &&& (2147483647 : Int32)) % (10 : Int32))), .unset, .unset] [(.int (3 : Int32)), (.int ((p0 &&& (2147483647 : Int32)) % (10 : Int32)))])) _
                      refine XS.icmpYes X0.here hx rfl (pc0 := 79) (pc' := 88) rfl (hb hby at_79) rfl (feq hcase3).2 (by decide) (by decide) ?_
                      show Steps p.tables e below (s₁.setTop (mkF m 88 #[.val (.int p0), .val (.int p1), .val (.int p2), .val (.int p3), .val (.int ((p2 &&& (255 : Int32)).toUInt32.toUInt16.toUInt32.toInt32)), .val (.int ((p3 &&& (255 : Int32)).toUInt32.toUInt16.toUInt32.toInt32)), .val (.int (f_first (p1 &&& (1 : Int32)))), .val (.int ((p0 &&& (2147483647 : Int32)) % (10 : Int32))), .unset, .unset] [])) _
                      refine XS.iload X0.here hx rfl (hb hby at_88) rfl ?_
                      show Steps p.tables e below (s₁.setTop (mkF m 90 #[.val (.int p0), .val (.int p1), .val (.int p2), .val (.int p3), .val (.int ((p2 &&& (255 : Int32)).toUInt32.toUInt16.toUInt32.toInt32)), .val (.int ((p3 &&& (255 : Int32)).toUInt32.toUInt16.toUInt32.toInt32)), .val (.int (f_first (p1 &&& (1 : Int32)))), .val (.int ((p0 &&& (2147483647 : Int32)) % (10 : Int32))), .unset, .unset] [(.int ((p0 &&& (2147483647 : Int32)) % (10 : Int32)))])) _
                      refine XS.iconst X0.here hx rfl (hb hby at_90) ?_
                      show Steps p.tables e below (s₁.setTop (mkF m 91 #[.val (.int p0), .val (.int p1), .val (.int p2), .val (.int p3), .val (.int ((p2 &&& (255 : Int32)).toUInt32.toUInt16.toUInt32.toInt32)), .val (.int ((p3 &&& (255 : Int32)).toUInt32.toUInt16.toUInt32.toInt32)), .val (.int (f_first (p1 &&& (1 : Int32)))), .val (.int ((p0 &&& (2147483647 : Int32)) % (10 : Int32))), .unset, .unset] [(.int (4 : Int32)), (.int ((p0 &&& (2147483647 : Int32)) % (10 : Int32)))])) _
                      refine XS.icmpYes X0.here hx rfl (pc0 := 91) (pc' := 168) rfl (hb hby at_91) rfl (feq hcase4).2 (by decide) (by decide) ?_
                      show Steps p.tables e below (s₁.setTop (mkF m 168 #[.val (.int p0), .val (.int p1), .val (.int p2), .val (.int p3), .val (.int ((p2 &&& (255 : Int32)).toUInt32.toUInt16.toUInt32.toInt32)), .val (.int ((p3 &&& (255 : Int32)).toUInt32.toUInt16.toUInt32.toInt32)), .val (.int (f_first (p1 &&& (1 : Int32)))), .val (.int ((p0 &&& (2147483647 : Int32)) % (10 : Int32))), .unset, .unset] [])) _
                      refine XS.iload X0.here hx rfl (hb hby at_168) rfl ?_
                      show Steps p.tables e below (s₁.setTop (mkF m 170 #[.val (.int p0), .val (.int p1), .val (.int p2), .val (.int p3), .val (.int ((p2 &&& (255 : Int32)).toUInt32.toUInt16.toUInt32.toInt32)), .val (.int ((p3 &&& (255 : Int32)).toUInt32.toUInt16.toUInt32.toInt32)), .val (.int (f_first (p1 &&& (1 : Int32)))), .val (.int ((p0 &&& (2147483647 : Int32)) % (10 : Int32))), .unset, .unset] [(.int ((p0 &&& (2147483647 : Int32)) % (10 : Int32)))])) _
                      refine XS.iconst X0.here hx rfl (hb hby at_170) ?_
                      show Steps p.tables e below (s₁.setTop (mkF m 171 #[.val (.int p0), .val (.int p1), .val (.int p2), .val (.int p3), .val (.int ((p2 &&& (255 : Int32)).toUInt32.toUInt16.toUInt32.toInt32)), .val (.int ((p3 &&& (255 : Int32)).toUInt32.toUInt16.toUInt32.toInt32)), .val (.int (f_first (p1 &&& (1 : Int32)))), .val (.int ((p0 &&& (2147483647 : Int32)) % (10 : Int32))), .unset, .unset] [(.int (5 : Int32)), (.int ((p0 &&& (2147483647 : Int32)) % (10 : Int32)))])) _
                      refine XS.icmpYes X0.here hx rfl (pc0 := 171) (pc' := 272) rfl (hb hby at_171) rfl (feq hcase5).2 (by decide) (by decide) ?_
                      show Steps p.tables e below (s₁.setTop (mkF m 272 #[.val (.int p0), .val (.int p1), .val (.int p2), .val (.int p3), .val (.int ((p2 &&& (255 : Int32)).toUInt32.toUInt16.toUInt32.toInt32)), .val (.int ((p3 &&& (255 : Int32)).toUInt32.toUInt16.toUInt32.toInt32)), .val (.int (f_first (p1 &&& (1 : Int32)))), .val (.int ((p0 &&& (2147483647 : Int32)) % (10 : Int32))), .unset, .unset] [])) _
                      refine XS.iload X0.here hx rfl (hb hby at_272) rfl ?_
                      show Steps p.tables e below (s₁.setTop (mkF m 274 #[.val (.int p0), .val (.int p1), .val (.int p2), .val (.int p3), .val (.int ((p2 &&& (255 : Int32)).toUInt32.toUInt16.toUInt32.toInt32)), .val (.int ((p3 &&& (255 : Int32)).toUInt32.toUInt16.toUInt32.toInt32)), .val (.int (f_first (p1 &&& (1 : Int32)))), .val (.int ((p0 &&& (2147483647 : Int32)) % (10 : Int32))), .unset, .unset] [(.int ((p0 &&& (2147483647 : Int32)) % (10 : Int32)))])) _
                      refine XS.bipush X0.here hx rfl (hb hby at_274) ?_
                      show Steps p.tables e below (s₁.setTop (mkF m 276 #[.val (.int p0), .val (.int p1), .val (.int p2), .val (.int p3), .val (.int ((p2 &&& (255 : Int32)).toUInt32.toUInt16.toUInt32.toInt32)), .val (.int ((p3 &&& (255 : Int32)).toUInt32.toUInt16.toUInt32.toInt32)), .val (.int (f_first (p1 &&& (1 : Int32)))), .val (.int ((p0 &&& (2147483647 : Int32)) % (10 : Int32))), .unset, .unset] [(.int (6 : Int32)), (.int ((p0 &&& (2147483647 : Int32)) % (10 : Int32)))])) _
                      refine XS.icmpYes X0.here hx rfl (pc0 := 276) (pc' := 444) rfl (hb hby at_276) rfl (feq hcase6).2 (by decide) (by decide) ?_
                      show Steps p.tables e below (s₁.setTop (mkF m 444 #[.val (.int p0), .val (.int p1), .val (.int p2), .val (.int p3), .val (.int ((p2 &&& (255 : Int32)).toUInt32.toUInt16.toUInt32.toInt32)), .val (.int ((p3 &&& (255 : Int32)).toUInt32.toUInt16.toUInt32.toInt32)), .val (.int (f_first (p1 &&& (1 : Int32)))), .val (.int ((p0 &&& (2147483647 : Int32)) % (10 : Int32))), .unset, .unset] [])) _
                      refine XS.iload X0.here hx rfl (hb hby at_444) rfl ?_
                      show Steps p.tables e below (s₁.setTop (mkF m 446 #[.val (.int p0), .val (.int p1), .val (.int p2), .val (.int p3), .val (.int ((p2 &&& (255 : Int32)).toUInt32.toUInt16.toUInt32.toInt32)), .val (.int ((p3 &&& (255 : Int32)).toUInt32.toUInt16.toUInt32.toInt32)), .val (.int (f_first (p1 &&& (1 : Int32)))), .val (.int ((p0 &&& (2147483647 : Int32)) % (10 : Int32))), .unset, .unset] [(.int ((p0 &&& (2147483647 : Int32)) % (10 : Int32)))])) _
                      refine XS.bipush X0.here hx rfl (hb hby at_446) ?_
                      show Steps p.tables e below (s₁.setTop (mkF m 448 #[.val (.int p0), .val (.int p1), .val (.int p2), .val (.int p3), .val (.int ((p2 &&& (255 : Int32)).toUInt32.toUInt16.toUInt32.toInt32)), .val (.int ((p3 &&& (255 : Int32)).toUInt32.toUInt16.toUInt32.toInt32)), .val (.int (f_first (p1 &&& (1 : Int32)))), .val (.int ((p0 &&& (2147483647 : Int32)) % (10 : Int32))), .unset, .unset] [(.int (7 : Int32)), (.int ((p0 &&& (2147483647 : Int32)) % (10 : Int32)))])) _
                      refine XS.icmpYes X0.here hx rfl (pc0 := 448) (pc' := 592) rfl (hb hby at_448) rfl (feq hcase7).2 (by decide) (by decide) ?_
                      show Steps p.tables e below (s₁.setTop (mkF m 592 #[.val (.int p0), .val (.int p1), .val (.int p2), .val (.int p3), .val (.int ((p2 &&& (255 : Int32)).toUInt32.toUInt16.toUInt32.toInt32)), .val (.int ((p3 &&& (255 : Int32)).toUInt32.toUInt16.toUInt32.toInt32)), .val (.int (f_first (p1 &&& (1 : Int32)))), .val (.int ((p0 &&& (2147483647 : Int32)) % (10 : Int32))), .unset, .unset] [])) _
                      refine XS.iload X0.here hx rfl (hb hby at_592) rfl ?_
                      show Steps p.tables e below (s₁.setTop (mkF m 594 #[.val (.int p0), .val (.int p1), .val (.int p2), .val (.int p3), .val (.int ((p2 &&& (255 : Int32)).toUInt32.toUInt16.toUInt32.toInt32)), .val (.int ((p3 &&& (255 : Int32)).toUInt32.toUInt16.toUInt32.toInt32)), .val (.int (f_first (p1 &&& (1 : Int32)))), .val (.int ((p0 &&& (2147483647 : Int32)) % (10 : Int32))), .unset, .unset] [(.int ((p0 &&& (2147483647 : Int32)) % (10 : Int32)))])) _
                      refine XS.bipush X0.here hx rfl (hb hby at_594) ?_
                      show Steps p.tables e below (s₁.setTop (mkF m 596 #[.val (.int p0), .val (.int p1), .val (.int p2), .val (.int p3), .val (.int ((p2 &&& (255 : Int32)).toUInt32.toUInt16.toUInt32.toInt32)), .val (.int ((p3 &&& (255 : Int32)).toUInt32.toUInt16.toUInt32.toInt32)), .val (.int (f_first (p1 &&& (1 : Int32)))), .val (.int ((p0 &&& (2147483647 : Int32)) % (10 : Int32))), .unset, .unset] [(.int (8 : Int32)), (.int ((p0 &&& (2147483647 : Int32)) % (10 : Int32)))])) _
                      refine XS.icmpYes X0.here hx rfl (pc0 := 596) (pc' := 606) rfl (hb hby at_596) rfl (feq hcase8).2 (by decide) (by decide) ?_
                      show Steps p.tables e below (s₁.setTop (mkF m 606 #[.val (.int p0), .val (.int p1), .val (.int p2), .val (.int p3), .val (.int ((p2 &&& (255 : Int32)).toUInt32.toUInt16.toUInt32.toInt32)), .val (.int ((p3 &&& (255 : Int32)).toUInt32.toUInt16.toUInt32.toInt32)), .val (.int (f_first (p1 &&& (1 : Int32)))), .val (.int ((p0 &&& (2147483647 : Int32)) % (10 : Int32))), .unset, .unset] [])) _
                      refine XS.iconst X0.here hx rfl (hb hby at_606) ?_
                      show Steps p.tables e below (s₁.setTop (mkF m 607 #[.val (.int p0), .val (.int p1), .val (.int p2), .val (.int p3), .val (.int ((p2 &&& (255 : Int32)).toUInt32.toUInt16.toUInt32.toInt32)), .val (.int ((p3 &&& (255 : Int32)).toUInt32.toUInt16.toUInt32.toInt32)), .val (.int (f_first (p1 &&& (1 : Int32)))), .val (.int ((p0 &&& (2147483647 : Int32)) % (10 : Int32))), .unset, .unset] [(.int (2 : Int32))])) _
                      refine str1 _ ?_
                      show Steps p.tables e below (Tr1.setTop (mkF m 609 #[.val (.int p0), .val (.int p1), .val (.int p2), .val (.int p3), .val (.int ((p2 &&& (255 : Int32)).toUInt32.toUInt16.toUInt32.toInt32)), .val (.int ((p3 &&& (255 : Int32)).toUInt32.toUInt16.toUInt32.toInt32)), .val (.int (f_first (p1 &&& (1 : Int32)))), .val (.int ((p0 &&& (2147483647 : Int32)) % (10 : Int32))), .unset, .unset] [(.ref br1)])) _
                      refine XS.dup Xr1.here hx rfl (hb hby at_609) rfl rfl ?_
                      show Steps p.tables e below (Tr1.setTop (mkF m 610 #[.val (.int p0), .val (.int p1), .val (.int p2), .val (.int p3), .val (.int ((p2 &&& (255 : Int32)).toUInt32.toUInt16.toUInt32.toInt32)), .val (.int ((p3 &&& (255 : Int32)).toUInt32.toUInt16.toUInt32.toInt32)), .val (.int (f_first (p1 &&& (1 : Int32)))), .val (.int ((p0 &&& (2147483647 : Int32)) % (10 : Int32))), .unset, .unset] [(.ref br1), (.ref br1)])) _
                      refine XS.iconst Xr1.here hx rfl (hb hby at_610) ?_
                      show Steps p.tables e below (Tr1.setTop (mkF m 611 #[.val (.int p0), .val (.int p1), .val (.int p2), .val (.int p3), .val (.int ((p2 &&& (255 : Int32)).toUInt32.toUInt16.toUInt32.toInt32)), .val (.int ((p3 &&& (255 : Int32)).toUInt32.toUInt16.toUInt32.toInt32)), .val (.int (f_first (p1 &&& (1 : Int32)))), .val (.int ((p0 &&& (2147483647 : Int32)) % (10 : Int32))), .unset, .unset] [(.int (0 : Int32)), (.ref br1), (.ref br1)])) _
                      refine XS.iload Xr1.here hx rfl (hb hby at_611) rfl ?_
                      show Steps p.tables e below (Tr1.setTop (mkF m 613 #[.val (.int p0), .val (.int p1), .val (.int p2), .val (.int p3), .val (.int ((p2 &&& (255 : Int32)).toUInt32.toUInt16.toUInt32.toInt32)), .val (.int ((p3 &&& (255 : Int32)).toUInt32.toUInt16.toUInt32.toInt32)), .val (.int (f_first (p1 &&& (1 : Int32)))), .val (.int ((p0 &&& (2147483647 : Int32)) % (10 : Int32))), .unset, .unset] [(.int ((p2 &&& (255 : Int32)).toUInt32.toUInt16.toUInt32.toInt32)), (.int (0 : Int32)), (.ref br1), (.ref br1)])) _
                      refine str2 _ ?_
                      show Steps p.tables e below (Tr2.setTop (mkF m 614 #[.val (.int p0), .val (.int p1), .val (.int p2), .val (.int p3), .val (.int ((p2 &&& (255 : Int32)).toUInt32.toUInt16.toUInt32.toInt32)), .val (.int ((p3 &&& (255 : Int32)).toUInt32.toUInt16.toUInt32.toInt32)), .val (.int (f_first (p1 &&& (1 : Int32)))), .val (.int ((p0 &&& (2147483647 : Int32)) % (10 : Int32))), .unset, .unset] [(.ref br1)])) _
                      refine XS.dup Xr2.here hx rfl (hb hby at_614) rfl rfl ?_
                      show Steps p.tables e below (Tr2.setTop (mkF m 615 #[.val (.int p0), .val (.int p1), .val (.int p2), .val (.int p3), .val (.int ((p2 &&& (255 : Int32)).toUInt32.toUInt16.toUInt32.toInt32)), .val (.int ((p3 &&& (255 : Int32)).toUInt32.toUInt16.toUInt32.toInt32)), .val (.int (f_first (p1 &&& (1 : Int32)))), .val (.int ((p0 &&& (2147483647 : Int32)) % (10 : Int32))), .unset, .unset] [(.ref br1), (.ref br1)])) _
                      refine XS.iconst Xr2.here hx rfl (hb hby at_615) ?_
                      show Steps p.tables e below (Tr2.setTop (mkF m 616 #[.val (.int p0), .val (.int p1), .val (.int p2), .val (.int p3), .val (.int ((p2 &&& (255 : Int32)).toUInt32.toUInt16.toUInt32.toInt32)), .val (.int ((p3 &&& (255 : Int32)).toUInt32.toUInt16.toUInt32.toInt32)), .val (.int (f_first (p1 &&& (1 : Int32)))), .val (.int ((p0 &&& (2147483647 : Int32)) % (10 : Int32))), .unset, .unset] [(.int (1 : Int32)), (.ref br1), (.ref br1)])) _
                      refine XS.iload Xr2.here hx rfl (hb hby at_616) rfl ?_
                      show Steps p.tables e below (Tr2.setTop (mkF m 618 #[.val (.int p0), .val (.int p1), .val (.int p2), .val (.int p3), .val (.int ((p2 &&& (255 : Int32)).toUInt32.toUInt16.toUInt32.toInt32)), .val (.int ((p3 &&& (255 : Int32)).toUInt32.toUInt16.toUInt32.toInt32)), .val (.int (f_first (p1 &&& (1 : Int32)))), .val (.int ((p0 &&& (2147483647 : Int32)) % (10 : Int32))), .unset, .unset] [(.int ((p3 &&& (255 : Int32)).toUInt32.toUInt16.toUInt32.toInt32)), (.int (1 : Int32)), (.ref br1), (.ref br1)])) _
                      refine str3 _ ?_
                      show Steps p.tables e below (Tr3.setTop (mkF m 619 #[.val (.int p0), .val (.int p1), .val (.int p2), .val (.int p3), .val (.int ((p2 &&& (255 : Int32)).toUInt32.toUInt16.toUInt32.toInt32)), .val (.int ((p3 &&& (255 : Int32)).toUInt32.toUInt16.toUInt32.toInt32)), .val (.int (f_first (p1 &&& (1 : Int32)))), .val (.int ((p0 &&& (2147483647 : Int32)) % (10 : Int32))), .unset, .unset] [(.ref br1)])) _
                      refine XS.astore Xr3.here hx rfl (hb hby at_619) rfl rfl (l' := #[.val (.int p0), .val (.int p1), .val (.int p2), .val (.int p3), .val (.int ((p2 &&& (255 : Int32)).toUInt32.toUInt16.toUInt32.toInt32)), .val (.int ((p3 &&& (255 : Int32)).toUInt32.toUInt16.toUInt32.toInt32)), .val (.int (f_first (p1 &&& (1 : Int32)))), .val (.int ((p0 &&& (2147483647 : Int32)) % (10 : Int32))), .unset, .val (.ref br1)]) rfl ?_
                      show Steps p.tables e below (Tr3.setTop (mkF m 621 #[.val (.int p0), .val (.int p1), .val (.int p2), .val (.int p3), .val (.int ((p2 &&& (255 : Int32)).toUInt32.toUInt16.toUInt32.toInt32)), .val (.int ((p3 &&& (255 : Int32)).toUInt32.toUInt16.toUInt32.toInt32)), .val (.int (f_first (p1 &&& (1 : Int32)))), .val (.int ((p0 &&& (2147483647 : Int32)) % (10 : Int32))), .unset, .val (.ref br1)] [])) _
                      refine str4 _ ?_
                      show Steps p.tables e below (Tr4.setTop (mkF m 624 #[.val (.int p0), .val (.int p1), .val (.int p2), .val (.int p3), .val (.int ((p2 &&& (255 : Int32)).toUInt32.toUInt16.toUInt32.toInt32)), .val (.int ((p3 &&& (255 : Int32)).toUInt32.toUInt16.toUInt32.toInt32)), .val (.int (f_first (p1 &&& (1 : Int32)))), .val (.int ((p0 &&& (2147483647 : Int32)) % (10 : Int32))), .unset, .val (.ref br1)] [(.ref br4)])) _
                      refine XS.dup Xr4.here hx rfl (hb hby at_624) rfl rfl ?_
                      show Steps p.tables e below (Tr4.setTop (mkF m 625 #[.val (.int p0), .val (.int p1), .val (.int p2), .val (.int p3), .val (.int ((p2 &&& (255 : Int32)).toUInt32.toUInt16.toUInt32.toInt32)), .val (.int ((p3 &&& (255 : Int32)).toUInt32.toUInt16.toUInt32.toInt32)), .val (.int (f_first (p1 &&& (1 : Int32)))), .val (.int ((p0 &&& (2147483647 : Int32)) % (10 : Int32))), .unset, .val (.ref br1)] [(.ref br4), (.ref br4)])) _
                      refine XS.aload Xr4.here hx rfl (hb hby at_625) rfl rfl ?_
                      show Steps p.tables e below (Tr4.setTop (mkF m 627 #[.val (.int p0), .val (.int p1), .val (.int p2), .val (.int p3), .val (.int ((p2 &&& (255 : Int32)).toUInt32.toUInt16.toUInt32.toInt32)), .val (.int ((p3 &&& (255 : Int32)).toUInt32.toUInt16.toUInt32.toInt32)), .val (.int (f_first (p1 &&& (1 : Int32)))), .val (.int ((p0 &&& (2147483647 : Int32)) % (10 : Int32))), .unset, .val (.ref br1)] [(.ref br1), (.ref br4), (.ref br4)])) _
                      refine str5.trans ?_
                      show Steps p.tables e below (Tr5.setTop (mkF m 630 #[.val (.int p0), .val (.int p1), .val (.int p2), .val (.int p3), .val (.int ((p2 &&& (255 : Int32)).toUInt32.toUInt16.toUInt32.toInt32)), .val (.int ((p3 &&& (255 : Int32)).toUInt32.toUInt16.toUInt32.toInt32)), .val (.int (f_first (p1 &&& (1 : Int32)))), .val (.int ((p0 &&& (2147483647 : Int32)) % (10 : Int32))), .unset, .val (.ref br1)] [(.ref br4)])) _
                      refine XS.astore Xr5.here hx rfl (hb hby at_630) rfl rfl (l' := #[.val (.int p0), .val (.int p1), .val (.int p2), .val (.int p3), .val (.int ((p2 &&& (255 : Int32)).toUInt32.toUInt16.toUInt32.toInt32)), .val (.int ((p3 &&& (255 : Int32)).toUInt32.toUInt16.toUInt32.toInt32)), .val (.int (f_first (p1 &&& (1 : Int32)))), .val (.int ((p0 &&& (2147483647 : Int32)) % (10 : Int32))), .val (.ref br4), .val (.ref br1)]) rfl ?_
                      show Steps p.tables e below (Tr5.setTop (mkF m 632 #[.val (.int p0), .val (.int p1), .val (.int p2), .val (.int p3), .val (.int ((p2 &&& (255 : Int32)).toUInt32.toUInt16.toUInt32.toInt32)), .val (.int ((p3 &&& (255 : Int32)).toUInt32.toUInt16.toUInt32.toInt32)), .val (.int (f_first (p1 &&& (1 : Int32)))), .val (.int ((p0 &&& (2147483647 : Int32)) % (10 : Int32))), .val (.ref br4), .val (.ref br1)] [])) _
                      exact hst
                    show Steps p.tables e below (s₁.setTop (mkF m 19 #[.val (.int p0), .val (.int p1), .val (.int p2), .val (.int p3), .val (.int ((p2 &&& (255 : Int32)).toUInt32.toUInt16.toUInt32.toInt32)), .val (.int ((p3 &&& (255 : Int32)).toUInt32.toUInt16.toUInt32.toInt32)), .unset, .unset, .unset, .unset] [(.int (p1 &&& (1 : Int32)))])) _
                    by_cases hc19_0 : (p1 &&& (1 : Int32)) = (0 : Int32)
                    · refine XS.ifNo X0.here hx rfl (hb hby at_19) rfl ((if0 _ _).trans (teq hc19_0).2) ?_
                      show Steps p.tables e below (s₁.setTop (mkF m 22 #[.val (.int p0), .val (.int p1), .val (.int p2), .val (.int p3), .val (.int ((p2 &&& (255 : Int32)).toUInt32.toUInt16.toUInt32.toInt32)), .val (.int ((p3 &&& (255 : Int32)).toUInt32.toUInt16.toUInt32.toInt32)), .unset, .unset, .unset, .unset] [])) _
                      refine XS.iconst X0.here hx rfl (hb hby at_22) ?_
                      show Steps p.tables e below (s₁.setTop (mkF m 23 #[.val (.int p0), .val (.int p1), .val (.int p2), .val (.int p3), .val (.int ((p2 &&& (255 : Int32)).toUInt32.toUInt16.toUInt32.toInt32)), .val (.int ((p3 &&& (255 : Int32)).toUInt32.toUInt16.toUInt32.toInt32)), .unset, .unset, .unset, .unset] [(.int (1 : Int32))])) _
                      refine XS.goto X0.here hx rfl (pc0 := 23) (pc' := 27) rfl (hb hby at_23) (by decide) (by decide) ?_
                      show Steps p.tables e below (s₁.setTop (mkF m 27 #[.val (.int p0), .val (.int p1), .val (.int p2), .val (.int p3), .val (.int ((p2 &&& (255 : Int32)).toUInt32.toUInt16.toUInt32.toInt32)), .val (.int ((p3 &&& (255 : Int32)).toUInt32.toUInt16.toUInt32.toInt32)), .unset, .unset, .unset, .unset] [(.int (1 : Int32))])) _
                      have hf : f_first (p1 &&& (1 : Int32)) = (1 : Int32) := by unfold f_first; rw [if_pos hc19_0]
                      rw [hf] at key
                      exact key
                    · refine XS.ifYes X0.here hx rfl (pc0 := 19) (pc' := 26) rfl (hb hby at_19) rfl ((if0 _ _).trans (feq hc19_0).2) (by decide) (by decide) ?_
                      show Steps p.tables e below (s₁.setTop (mkF m 26 #[.val (.int p0), .val (.int p1), .val (.int p2), .val (.int p3), .val (.int ((p2 &&& (255 : Int32)).toUInt32.toUInt16.toUInt32.toInt32)), .val (.int ((p3 &&& (255 : Int32)).toUInt32.toUInt16.toUInt32.toInt32)), .unset, .unset, .unset, .unset] [])) _
                      refine XS.iconst X0.here hx rfl (hb hby at_26) ?_
                      show Steps p.tables e below (s₁.setTop (mkF m 27 #[.val (.int p0), .val (.int p1), .val (.int p2), .val (.int p3), .val (.int ((p2 &&& (255 : Int32)).toUInt32.toUInt16.toUInt32.toInt32)), .val (.int ((p3 &&& (255 : Int32)).toUInt32.toUInt16.toUInt32.toInt32)), .unset, .unset, .unset, .unset] [(.int (0 : Int32))])) _
                      have hf : f_first (p1 &&& (1 : Int32)) = (0 : Int32) := by unfold f_first; rw [if_neg hc19_0]
                      rw [hf] at key
                      exact key
set_option maxRecDepth 65536 in
set_option maxHeartbeats 40000000 in
theorem comes_1 {Post : Tables → Env → Array Value → State → Outcome → State → Prop} (hpost : ∀ tb e args s v u, (limb_1_1.after args s (.returned v) u = true ∧ limb_1_2.after args s (.returned v) u = true ∧ True) → FramedW s (.returned v) u (Jvm.fieldLocs frame_1_writes args s ++ Jvm.arrayLocs frame_1_arrays args s ++ Jvm.staticLocs frame_1_statics s) 24 4288 → Post tb e args s (.returned v) u) :
    ArmFor flags0 classFile x code maxLocals ret World_1 tables_1 room_1 Calls_1 rest_1 Pre_1 Post := by
  intro l hfl _ _ p e ha hc hk s m args below hf hA hF happ hP
  obtain ⟨hcalls, hrest, hpre⟩ := hP
  obtain ⟨-, -, -, hnamed, -, -, -, hat⟩ := (Spec.applies_iff hf).mp happ
  obtain ⟨hg, hn⟩ := and_e (Cond.before_iff.mp (show (Jvm.Cond.and given_1 narrow_1).before args s = true from hpre))
  obtain ⟨hcount, hq0⟩ := and_e hg
  obtain ⟨ha0, hq1⟩ := and_e hq0
  obtain ⟨ha1, hq2⟩ := and_e hq1
  obtain ⟨ha2, hq3⟩ := and_e hq2
  have ha3 := hq3
  obtain ⟨w0, w1, w2, w3, rfl⟩ : ∃ w0 w1 w2 w3 : Value, args = #[w0, w1, w2, w3] := by
    have hs : args.size = 4 := by simpa [Cond.value, given_1] using hcount
    obtain ⟨L⟩ := args
    match L, hs with
    | [w0, w1, w2, w3], _ => exact ⟨w0, w1, w2, w3, rfl⟩
  have hw := fun d (hd : d ∈ tables_1) => atoms_spec (ws := Jvm.Cond.code x code maxLocals ret :: tables_1) hat d (List.mem_cons_of_mem _ hd)
  have hfit : Fit s := fun {y c} hc i hi => by
    obtain ⟨ha, rfl⟩ := Array.getElem?_eq_some_iff.mp hc
    have q := List.all_eq_true.mp ((Array.all_eq_true_iff_forall_mem.mp hF) _ (Array.getElem_mem ha)) i (List.mem_range.mpr hi)
    simpa [Array.getElem?_eq_getElem hi] using q
  obtain ⟨i0, ei0⟩ := is_v ha0
  obtain rfl : w0 = (.int i0) := Option.some.inj ei0
  obtain ⟨i1, ei1⟩ := is_v ha1
  obtain rfl : w1 = (.int i1) := Option.some.inj ei1
  obtain ⟨i2, ei2⟩ := is_v ha2
  obtain rfl : w2 = (.int i2) := Option.some.inj ei2
  obtain ⟨i3, ei3⟩ := is_v ha3
  obtain rfl : w3 = (.int i3) := Option.some.inj ei3
  have c0 := hn
  obtain ⟨m0, c1⟩ := and_e c0
  obtain ⟨m1, c2⟩ := and_e c1
  obtain ⟨m2, c3⟩ := and_e c2
  obtain ⟨m3, c4⟩ := and_e c3
  obtain ⟨m4, c5⟩ := and_e c4
  obtain ⟨m5, c6⟩ := and_e c5
  obtain ⟨m6, c7⟩ := and_e c6
  obtain ⟨m7, c8⟩ := and_e c7
  obtain ⟨m8, c9⟩ := and_e c8
  obtain ⟨m9, c10⟩ := and_e c9
  obtain ⟨m10, c11⟩ := and_e c10
  obtain ⟨m11, c12⟩ := and_e c11
  obtain ⟨m12, c13⟩ := and_e c12
  obtain ⟨m13, c14⟩ := and_e c13
  obtain ⟨m14, c15⟩ := and_e c14
  obtain ⟨m15, c16⟩ := and_e c15
  obtain ⟨m16, c17⟩ := and_e c16
  obtain ⟨m17, c18⟩ := and_e c17
  obtain ⟨m18, c19⟩ := and_e c18
  obtain ⟨m19, c20⟩ := and_e c19
  obtain ⟨m20, c21⟩ := and_e c20
  obtain ⟨m21, c22⟩ := and_e c21
  obtain ⟨m22, c23⟩ := and_e c22
  obtain ⟨m23, c24⟩ := and_e c23
  obtain ⟨m24, c25⟩ := and_e c24
  obtain ⟨m25, c26⟩ := and_e c25
  obtain ⟨m26, c27⟩ := and_e c26
  obtain ⟨m27, c28⟩ := and_e c27
  obtain ⟨m28, c29⟩ := and_e c28
  have m29 := c29
  obtain ⟨wL, ewL⟩ := exa_v m0
  have S_L : Sta s s.heap "com/example/vestry/vestry/census/PaymentForm" "LUMP_SUM" "Lcom/example/vestry/vestry/census/PaymentForm;" (.ref wL) := Sta.start ewL (Or.inr ⟨(hw _ (List.mem_of_getElem? (i := 15) rfl)), (hw _ (List.mem_of_getElem? (i := 16) rfl))⟩)
  obtain ⟨uL, euL⟩ := exa_v m1
  obtain ⟨bL, kL, g1L, g2L, g3L, g4L⟩ := own_start hfit (bs := own_L) (by decide) euL m1 m2 m3 m4 ⟨m10, m11, m12, m13, m14, m15, m16, m17, trivial⟩
  have W_L : own_W s s.heap wL own_L := ⟨uL, bL, kL, Fld.start ((fld_at ewL).symm.trans euL), g1L, g2L, g3L, g4L⟩
  obtain ⟨wI, ewI⟩ := exa_v m5
  have S_I : Sta s s.heap "com/example/vestry/vestry/census/PaymentForm" "INSTALLMENTS" "Lcom/example/vestry/vestry/census/PaymentForm;" (.ref wI) := Sta.start ewI (Or.inr ⟨(hw _ (List.mem_of_getElem? (i := 15) rfl)), (hw _ (List.mem_of_getElem? (i := 36) rfl))⟩)
  obtain ⟨uI, euI⟩ := exa_v m6
  obtain ⟨bI, kI, g1I, g2I, g3I, g4I⟩ := own_start hfit (bs := own_I) (by decide) euI m6 m7 m8 m9 ⟨m18, m19, m20, m21, m22, m23, m24, m25, m26, m27, m28, m29, trivial⟩
  have W_I : own_W s s.heap wI own_I := ⟨uI, bI, kI, Fld.start ((fld_at ewI).symm.trans euI), g1I, g2I, g3I, g4I⟩
  obtain ⟨hsets, hown0⟩ := atoms_of _ (rest_1_c_eq ▸ (show rest_1_c.before _ s = true from hrest))
  have n5 := not_v (Cond.before_iff.mp (hsets _ (List.mem_of_getElem? (i := 2) rfl)))
  obtain ⟨iC, eC⟩ := is_v (Cond.before_iff.mp (hsets _ (List.mem_of_getElem? (i := 1) rfl)))
  have S_C : Sta s s.heap "java/lang/String" "COMPACT_STRINGS" "Z" (.int iC) := Sta.start eC (Or.inl (hsets _ (List.mem_of_getElem? (i := 0) rfl)))
  have hC : ¬ (iC = (0 : Int32)) := gotF (Cond.eq_ints eC (Term.int_eval (0))) n5
  have hcw := hsets _ (List.mem_of_getElem? (i := 2) rfl)
  have hLit : ∀ q ∈ consts_1, Jvm.Lit.constHeld s q.1 q.2 := hcalls.1
  obtain ⟨n, o, h1, h2, h3, _, L, rfl, ⟨rfl, N⟩, hq⟩ := rm_law l s _ hw tables_1 i0 i1 i2 i3 wL wI iC s.heap s.heap.size (Nat.le_refl _) S_L S_I W_L W_I S_C hC hcw hLit rfl p e ha hc hk s m _ below hf ((Spec.applies_iff_loose hf).mp happ).1 ⟨rfl, State.Warmed39.refl s, rfl, rfl⟩ trivial
  refine ⟨n, _, h1, h2, h3, hpost _ _ _ _ _ _ ⟨Cond.after_iff.mpr rfl, Cond.after_iff.mpr (eq_i res_at (Term.int_eval (1)) rfl), trivial⟩ ⟨hq.1, hq.2.1, hq.2.2.1, (hq.2.2.2.sift fun y hy => Or.inr (N y hy)).mono (by decide) (by decide)⟩⟩
theorem main_1_1 : Claimed_1_1 := comes_1 fun _ _ _ _ _ _ h hF => ⟨h.1, hF⟩
theorem main_1_2 : Claimed_1_2 := comes_1 fun _ _ _ _ _ _ h hF => ⟨h.2.1, hF⟩
end Jvm.Pilot.@@N@@
namespace Jvm.Pilot.@@N@@
open Jvm Jvm.ClassFile Sem Op Lib Jvm.Free Jvm.Stand Jvm.Pilot.@@N@@.Jvm.D
/-! MADE BY PROGRAM (witnessworld.py) out of the Statement's table words and the real class files: 21 classes; the members and pool entries that the words name. The judged class is class 1, her method 1. -/
namespace start1
open Jvm.ClassFile
def u (s : String) : CpInfo := .utf8 (stringToUtf16 s)
/-- a pool by its gaps: so many unusable entries, then the entry; so many at the end -/
def gap : Nat → List CpInfo → List CpInfo
  | 0, r => r
  | n + 1, r => .unusable :: gap n r
def poolList (es : List (Nat × CpInfo)) (last : Nat) : List CpInfo := es.foldr (fun e r => gap e.1 (e.2 :: r)) (gap last [])
def pool (es : List (Nat × CpInfo)) (last : Nat) : Array CpInfo := ⟨poolList es last⟩
def fileOf (pool : Array CpInfo) (this : Nat) (attrs : Array Attribute := #[]) (ms : Array MethodInfo := #[]) (fl : Nat := 33) (sup : Nat := 0) (ifs : Array Nat := #[]) (fds : Array FieldInfo := #[]) : ClassFile where
  minorVersion := 0
  majorVersion := 65
  constantPool := pool
  accessFlags := fl
  thisClass := this
  superClass := sup
  interfaces := ifs
  fields := fds
  methods := ms
  attributes := attrs
def plain (name : String) (sup : Option ClassId) : Class where
  name := name
  kind := .ordinary
  loader := none
  accessFlags := 33
  super := sup
  interfaces := #[]
  cf := none
  fields := #[]
  methods := #[]
  instanceTypes := #[]
  staticTypes := #[]
  resolved := #[]
  callSites := []
  init := .initialized
  statics := none
  mirror := none

def pool0 : Array CpInfo := pool [(5, u "<init>"), (0, u "()V"), (1, .class_ 10), (1, u "java/lang/Object")] 113

def k0c0 : Code := { maxStack := 0, maxLocals := 1, code := object_method_1_code, exceptionTable := #[], attributes := #[] }
def k0m0 : Method := { name := "<init>", desc := "()V", sig := { parameters := [], returnType := none }, accessFlags := 1, code := some k0c0 }
/-- java/lang/Object -/
def k0 : Class := { plain "java/lang/Object" none with
  accessFlags := 33
  interfaces := #[]
  cf := some (fileOf pool0 8 #[] #[{ accessFlags := 1, nameIndex := 5, descriptorIndex := 6, attributes := #[] }] 33 0 #[] #[])
  fields := #[]
  methods := #[k0m0]
  instanceTypes := #[]
  staticTypes := #[]
  resolved := Array.replicate 124 none
  statics := none }

def pool1 : Array CpInfo := pool [(2, .class_ 4), (1, u "java/lang/Object"), (0, u "<init>"), (0, u "()V"), (0, .integer 2147483647), (0, .string 9), (0, u "lump-sum"), (0, .string 11), (0, u "installments"), (0, .string 13), (0, u "deferred"), (0, .class_ 15), (0, u "java/lang/String"), (0, .methodref 14 17), (0, .nameAndType 5 18), (0, u "([C)V"), (0, .string 20), (0, u ""), (0, .methodref 14 22), (0, .nameAndType 23 24), (0, u "equals"), (0, u "(Ljava/lang/Object;)Z"), (0, .fieldref 26 27), (0, .class_ 28), (0, .nameAndType 29 30), (0, u "com/example/vestry/vestry/census/PaymentForm"), (0, u "LUMP_SUM"), (0, u "Lcom/example/vestry/vestry/census/PaymentForm;"), (0, .fieldref 26 32), (0, .nameAndType 33 30), (0, u "INSTALLMENTS"), (0, .methodref 26 35), (0, .nameAndType 36 37), (0, u "appliedFor"), (0, u "(Ljava/lang/String;)Lcom/example/vestry/vestry/census/PaymentForm;"), (0, .class_ 39), (0, u "com/example/vestry/vestry/census/PaymentFormAppliedForPinLaw"), (2, u "law"), (0, u "(IIII)Z")] 3

def k1m0 : Method := { name := "<init>", desc := "()V", sig := { parameters := [], returnType := none }, accessFlags := 1, code := none }
def k1c1 : Code := { maxStack := 4, maxLocals := 10, code := code, exceptionTable := #[], attributes := #[] }
def k1m1 : Method := { name := "law", desc := "(IIII)Z", sig := { parameters := [.int, .int, .int, .int], returnType := some .boolean }, accessFlags := 9, code := some k1c1 }
/-- com/example/vestry/vestry/census/PaymentFormAppliedForPinLaw -/
def k1 : Class := { plain "com/example/vestry/vestry/census/PaymentFormAppliedForPinLaw" (some 0) with
  accessFlags := 49
  interfaces := #[]
  cf := some (fileOf pool1 38 #[] #[{ accessFlags := 1, nameIndex := 5, descriptorIndex := 6, attributes := #[] }, { accessFlags := 9, nameIndex := 42, descriptorIndex := 43, attributes := #[] }] 49 2 #[] #[])
  fields := #[]
  methods := #[k1m0, k1m1]
  instanceTypes := #[]
  staticTypes := #[]
  resolved := Array.replicate 47 none
  statics := none }

def pool2 : Array CpInfo := pool [(1, .class_ 2), (0, u "java/io/Serializable"), (0, .class_ 4), (0, u "java/lang/Object")] 2

/-- java/io/Serializable -/
def k2 : Class := { plain "java/io/Serializable" (some 0) with
  accessFlags := 1537
  interfaces := #[]
  cf := some (fileOf pool2 1 #[] #[] 1537 3 #[] #[])
  fields := #[]
  methods := #[]
  instanceTypes := #[]
  staticTypes := #[]
  resolved := Array.replicate 7 none
  statics := none }

def pool3 : Array CpInfo := pool [(1, .class_ 2), (0, u "java/lang/Comparable"), (0, .class_ 4), (0, u "java/lang/Object")] 7

/-- java/lang/Comparable -/
def k3 : Class := { plain "java/lang/Comparable" (some 0) with
  accessFlags := 1537
  interfaces := #[]
  cf := some (fileOf pool3 1 #[] #[] 1537 3 #[] #[])
  fields := #[]
  methods := #[]
  instanceTypes := #[]
  staticTypes := #[]
  resolved := Array.replicate 12 none
  statics := none }

def pool4 : Array CpInfo := pool [(2, .class_ 4), (1, u "java/lang/CharSequence"), (42, .class_ 48), (0, u "java/lang/CharSequence$1CodePointIterator"), (10, .class_ 60), (0, u "java/lang/CharSequence$1CharIterator"), (5, .class_ 67), (0, u "java/lang/Object")] 63

/-- java/lang/CharSequence -/
def k4 : Class := { plain "java/lang/CharSequence" (some 0) with
  accessFlags := 1537
  interfaces := #[]
  cf := some (fileOf pool4 2 #[.nestMembers #[47, 59]] #[] 1537 66 #[] #[])
  fields := #[]
  methods := #[]
  instanceTypes := #[]
  staticTypes := #[]
  resolved := Array.replicate 131 none
  statics := none }

def pool5 : Array CpInfo := pool [(1, .class_ 2), (0, u "java/lang/constant/Constable"), (0, .class_ 4), (0, u "java/lang/Object")] 6

/-- java/lang/constant/Constable -/
def k5 : Class := { plain "java/lang/constant/Constable" (some 0) with
  accessFlags := 1537
  interfaces := #[]
  cf := some (fileOf pool5 1 #[] #[] 1537 3 #[] #[])
  fields := #[]
  methods := #[]
  instanceTypes := #[]
  staticTypes := #[]
  resolved := Array.replicate 11 none
  statics := none }

def pool6 : Array CpInfo := pool [(1, .class_ 2), (0, u "java/lang/constant/ConstantDesc"), (0, .class_ 4), (0, u "java/lang/Object")] 32

/-- java/lang/constant/ConstantDesc -/
def k6 : Class := { plain "java/lang/constant/ConstantDesc" (some 0) with
  accessFlags := 1537
  interfaces := #[]
  cf := some (fileOf pool6 1 #[] #[] 1537 3 #[] #[])
  fields := #[]
  methods := #[]
  instanceTypes := #[]
  staticTypes := #[]
  resolved := Array.replicate 37 none
  statics := none }

def pool7 : Array CpInfo := pool [(1, .methodref 2 3), (0, .class_ 4), (0, .nameAndType 5 6), (0, u "java/lang/Object"), (0, u "<init>"), (0, u "()V"), (2, .fieldref 10 11), (0, .class_ 12), (0, .nameAndType 13 14), (0, u "java/lang/String"), (0, u "value"), (0, u "[B"), (0, .fieldref 10 16), (0, .nameAndType 17 18), (0, u "coder"), (0, u "B"), (2, u "hash"), (0, u "I"), (2, u "hashIsZero"), (0, u "Z"), (0, .methodref 10 28), (0, .nameAndType 5 29), (0, u "([CIILjava/lang/Void;)V"), (8, .fieldref 10 39), (0, .nameAndType 40 26), (0, u "COMPACT_STRINGS"), (1, .class_ 44), (1, u "java/lang/StringUTF16"), (0, u "compress"), (1, .methodref 42 48), (0, .nameAndType 49 50), (0, u "coderFromArrayLen"), (0, u "([BI)B"), (56, .class_ 109), (1, u "java/lang/StringLatin1"), (67, .methodref 42 178), (0, .nameAndType 45 179), (0, u "([CII)[B"), (361, .methodref 107 542), (0, .nameAndType 543 544), (0, u "equals"), (0, u "([B[B)Z"), (28, u "(Ljava/lang/Object;)Z"), (1, .class_ 576), (0, u "java/lang/CharSequence"), (22, u "CASE_INSENSITIVE_ORDER"), (0, u "Ljava/util/Comparator;"), (409, u "([C)V"), (90, u "serialPersistentFields"), (0, u "[Ljava/io/ObjectStreamField;"), (0, .class_ 1104), (0, u "java/lang/String$CaseInsensitiveComparator"), (1, .class_ 1107), (0, u "java/io/Serializable"), (0, .class_ 1109), (0, u "java/lang/Comparable"), (0, .class_ 1111), (0, u "java/lang/constant/Constable"), (0, .class_ 1113), (0, u "java/lang/constant/ConstantDesc"), (2, u "serialVersionUID"), (0, u "J"), (3, u "REPL"), (0, u "C"), (2, u "LATIN1"), (1, u "UTF16")] 323

def k7m0 : Method := { name := "<init>", desc := "()V", sig := { parameters := [], returnType := none }, accessFlags := 1, code := none }
def k7c1 : Code := { maxStack := 5, maxLocals := 2, code := jdk_42_method_3_code, exceptionTable := #[], attributes := #[] }
def k7m1 : Method := { name := "<init>", desc := "([C)V", sig := { parameters := [(.array .char)], returnType := none }, accessFlags := 1, code := some k7c1 }
def k7c2 : Code := { maxStack := 2, maxLocals := 3, code := jdk_42_method_66_code, exceptionTable := #[], attributes := #[] }
def k7m2 : Method := { name := "equals", desc := "(Ljava/lang/Object;)Z", sig := { parameters := [(.object "java/lang/Object")], returnType := some .boolean }, accessFlags := 1, code := some k7c2 }
def k7c3 : Code := { maxStack := 4, maxLocals := 6, code := jdk_42_method_149_code, exceptionTable := #[], attributes := #[] }
def k7m3 : Method := { name := "<init>", desc := "([CIILjava/lang/Void;)V", sig := { parameters := [(.array .char), .int, .int, (.object "java/lang/Void")], returnType := none }, accessFlags := 2, code := some k7c3 }
/-- java/lang/String -/
def k7 : Class := { plain "java/lang/String" (some 0) with
  accessFlags := 49
  interfaces := #[2, 3, 4, 5, 6]
  cf := some (fileOf pool7 10 #[.nestMembers #[1103]] #[{ accessFlags := 1, nameIndex := 5, descriptorIndex := 6, attributes := #[] }, { accessFlags := 1, nameIndex := 5, descriptorIndex := 1010, attributes := #[] }, { accessFlags := 1, nameIndex := 543, descriptorIndex := 573, attributes := #[] }, { accessFlags := 2, nameIndex := 5, descriptorIndex := 29, attributes := #[] }] 49 2 #[1106, 1108, 575, 1110, 1112] #[{ accessFlags := 18, nameIndex := 13, descriptorIndex := 14, attributes := #[] }, { accessFlags := 18, nameIndex := 17, descriptorIndex := 18, attributes := #[] }, { accessFlags := 2, nameIndex := 21, descriptorIndex := 22, attributes := #[] }, { accessFlags := 2, nameIndex := 25, descriptorIndex := 26, attributes := #[] }, { accessFlags := 26, nameIndex := 1116, descriptorIndex := 1117, attributes := #[] }, { accessFlags := 24, nameIndex := 40, descriptorIndex := 26, attributes := #[] }, { accessFlags := 26, nameIndex := 1101, descriptorIndex := 1102, attributes := #[] }, { accessFlags := 26, nameIndex := 1121, descriptorIndex := 1122, attributes := #[] }, { accessFlags := 25, nameIndex := 599, descriptorIndex := 600, attributes := #[] }, { accessFlags := 24, nameIndex := 1125, descriptorIndex := 18, attributes := #[] }, { accessFlags := 24, nameIndex := 1127, descriptorIndex := 18, attributes := #[] }])
  fields := #[{ name := "value", type := (.array .byte), accessFlags := 18, slot := 0, constantValue := 0 }, { name := "coder", type := .byte, accessFlags := 18, slot := 1, constantValue := 0 }, { name := "hash", type := .int, accessFlags := 2, slot := 2, constantValue := 0 }, { name := "hashIsZero", type := .boolean, accessFlags := 2, slot := 3, constantValue := 0 }, { name := "serialVersionUID", type := .long, accessFlags := 26, slot := 0, constantValue := 0 }, { name := "COMPACT_STRINGS", type := .boolean, accessFlags := 24, slot := 1, constantValue := 0 }, { name := "serialPersistentFields", type := (.array (.object "java/io/ObjectStreamField")), accessFlags := 26, slot := 2, constantValue := 0 }, { name := "REPL", type := .char, accessFlags := 26, slot := 3, constantValue := 0 }, { name := "CASE_INSENSITIVE_ORDER", type := (.object "java/util/Comparator"), accessFlags := 25, slot := 4, constantValue := 0 }, { name := "LATIN1", type := .byte, accessFlags := 24, slot := 5, constantValue := 0 }, { name := "UTF16", type := .byte, accessFlags := 24, slot := 6, constantValue := 0 }]
  methods := #[k7m0, k7m1, k7m2, k7m3]
  instanceTypes := #[(.array .byte), .byte, .int, .boolean]
  staticTypes := #[.long, .boolean, (.array (.object "java/io/ObjectStreamField")), .char, (.object "java/util/Comparator"), .byte, .byte]
  resolved := Array.replicate 1451 none
  statics := some 0 }

def pool8 : Array CpInfo := pool [(2, .class_ 4), (1, u "java/lang/Enum"), (0, u "name"), (0, u "Ljava/lang/String;"), (2, u "ordinal"), (0, u "I"), (1, .class_ 14), (1, u "java/lang/Object"), (4, u "hash"), (86, .class_ 108), (1, u "java/lang/Enum$EnumDesc"), (2, .class_ 112), (0, u "java/lang/constant/Constable"), (0, .class_ 114), (0, u "java/lang/Comparable"), (0, .class_ 116), (0, u "java/io/Serializable")] 87

/-- java/lang/Enum -/
def k8 : Class := { plain "java/lang/Enum" (some 0) with
  accessFlags := 1057
  interfaces := #[5, 3, 2]
  cf := some (fileOf pool8 2 #[.nestMembers #[106]] #[] 1057 12 #[111, 113, 115] #[{ accessFlags := 18, nameIndex := 5, descriptorIndex := 6, attributes := #[] }, { accessFlags := 18, nameIndex := 9, descriptorIndex := 10, attributes := #[] }, { accessFlags := 2, nameIndex := 19, descriptorIndex := 10, attributes := #[] }])
  fields := #[{ name := "name", type := (.object "java/lang/String"), accessFlags := 18, slot := 0, constantValue := 0 }, { name := "ordinal", type := .int, accessFlags := 18, slot := 1, constantValue := 0 }, { name := "hash", type := .int, accessFlags := 2, slot := 2, constantValue := 0 }]
  methods := #[]
  instanceTypes := #[(.object "java/lang/String"), .int, .int]
  staticTypes := #[]
  resolved := Array.replicate 204 none
  statics := none }

def pool9 : Array CpInfo := pool [(1, .class_ 2), (0, u "com/example/vestry/vestry/census/PaymentForm"), (0, .fieldref 1 4), (0, .nameAndType 5 6), (0, u "LUMP_SUM"), (0, u "Lcom/example/vestry/vestry/census/PaymentForm;"), (0, .fieldref 1 8), (0, .nameAndType 9 6), (0, u "INSTALLMENTS"), (2, u "DEFERRED"), (2, u "$VALUES"), (0, u "[Lcom/example/vestry/vestry/census/PaymentForm;"), (6, .class_ 25), (1, u "java/lang/Enum"), (6, .fieldref 1 33), (0, .nameAndType 34 35), (0, u "fileName"), (0, u "Ljava/lang/String;"), (0, .methodref 37 38), (0, .class_ 39), (0, .nameAndType 40 41), (0, u "java/lang/String"), (0, u "equals"), (0, u "(Ljava/lang/Object;)Z"), (19, u "(Ljava/lang/String;)Lcom/example/vestry/vestry/census/PaymentForm;"), (3, u "appliedFor")] 7

def k9c0 : Code := { maxStack := 2, maxLocals := 2, code := prog_41_method_4_code, exceptionTable := #[], attributes := #[] }
def k9m0 : Method := { name := "appliedFor", desc := "(Ljava/lang/String;)Lcom/example/vestry/vestry/census/PaymentForm;", sig := { parameters := [(.object "java/lang/String")], returnType := some (.object "com/example/vestry/vestry/census/PaymentForm") }, accessFlags := 9, code := some k9c0 }
/-- com/example/vestry/vestry/census/PaymentForm -/
def k9 : Class := { plain "com/example/vestry/vestry/census/PaymentForm" (some 8) with
  accessFlags := 16433
  interfaces := #[]
  cf := some (fileOf pool9 1 #[] #[{ accessFlags := 9, nameIndex := 65, descriptorIndex := 61, attributes := #[] }] 16433 23 #[] #[{ accessFlags := 16409, nameIndex := 5, descriptorIndex := 6, attributes := #[] }, { accessFlags := 16409, nameIndex := 9, descriptorIndex := 6, attributes := #[] }, { accessFlags := 16409, nameIndex := 12, descriptorIndex := 6, attributes := #[] }, { accessFlags := 18, nameIndex := 34, descriptorIndex := 35, attributes := #[] }, { accessFlags := 4122, nameIndex := 15, descriptorIndex := 16, attributes := #[] }])
  fields := #[{ name := "LUMP_SUM", type := (.object "com/example/vestry/vestry/census/PaymentForm"), accessFlags := 16409, slot := 0, constantValue := 0 }, { name := "INSTALLMENTS", type := (.object "com/example/vestry/vestry/census/PaymentForm"), accessFlags := 16409, slot := 1, constantValue := 0 }, { name := "DEFERRED", type := (.object "com/example/vestry/vestry/census/PaymentForm"), accessFlags := 16409, slot := 2, constantValue := 0 }, { name := "fileName", type := (.object "java/lang/String"), accessFlags := 18, slot := 3, constantValue := 0 }, { name := "$VALUES", type := (.array (.object "com/example/vestry/vestry/census/PaymentForm")), accessFlags := 4122, slot := 3, constantValue := 0 }]
  methods := #[k9m0]
  instanceTypes := #[(.object "java/lang/String"), .int, .int, (.object "java/lang/String")]
  staticTypes := #[(.object "com/example/vestry/vestry/census/PaymentForm"), (.object "com/example/vestry/vestry/census/PaymentForm"), (.object "com/example/vestry/vestry/census/PaymentForm"), (.array (.object "com/example/vestry/vestry/census/PaymentForm"))]
  resolved := Array.replicate 73 none
  statics := some 1 }

def pool10 : Array CpInfo := pool [(4, .class_ 6), (1, u "java/lang/Object"), (0, u "<init>"), (0, u "()V"), (5, .class_ 16), (1, u "java/lang/StringLatin1"), (104, u "$assertionsDisabled"), (0, u "Z"), (98, .class_ 223), (1, u "java/lang/StringLatin1$LinesSpliterator"), (57, u "equals"), (0, u "([B[B)Z"), (107, .class_ 391), (0, u "java/lang/StringLatin1$CharsSpliterator")] 3

def k10m0 : Method := { name := "<init>", desc := "()V", sig := { parameters := [], returnType := none }, accessFlags := 0, code := none }
def k10c1 : Code := { maxStack := 3, maxLocals := 3, code := jdk_43_method_13_code, exceptionTable := #[], attributes := #[] }
def k10m1 : Method := { name := "equals", desc := "([B[B)Z", sig := { parameters := [(.array .byte), (.array .byte)], returnType := some .boolean }, accessFlags := 9, code := some k10c1 }
/-- java/lang/StringLatin1 -/
def k10 : Class := { plain "java/lang/StringLatin1" (some 0) with
  accessFlags := 48
  interfaces := #[]
  cf := some (fileOf pool10 14 #[.nestMembers #[390, 221]] #[{ accessFlags := 0, nameIndex := 7, descriptorIndex := 8, attributes := #[] }, { accessFlags := 9, nameIndex := 281, descriptorIndex := 282, attributes := #[] }] 48 4 #[] #[{ accessFlags := 4120, nameIndex := 121, descriptorIndex := 122, attributes := #[] }])
  fields := #[{ name := "$assertionsDisabled", type := .boolean, accessFlags := 4120, slot := 0, constantValue := 0 }]
  methods := #[k10m0, k10m1]
  instanceTypes := #[]
  staticTypes := #[.boolean]
  resolved := Array.replicate 395 none
  statics := none }

def pool11 : Array CpInfo := pool [(6, .class_ 8), (1, u "java/lang/Object"), (0, u "<init>"), (0, u "()V"), (1, .class_ 14), (1, u "java/lang/StringUTF16"), (31, u "$assertionsDisabled"), (0, u "Z"), (13, u "HI_BYTE_SHIFT"), (0, u "I"), (2, u "LO_BYTE_SHIFT"), (49, .methodref 12 116), (0, .nameAndType 117 118), (0, u "compress"), (0, u "([CI[BII)I"), (3, u "([CII)[B"), (138, u "coderFromArrayLen"), (0, u "([BI)B"), (106, .class_ 371), (1, u "java/lang/StringUTF16$LinesSpliterator"), (58, u "MAX_LENGTH"), (196, .class_ 628), (0, u "java/lang/StringUTF16$CodePointsSpliterator"), (0, .class_ 630), (0, u "java/lang/StringUTF16$CharsSpliterator")] 4

def k11m0 : Method := { name := "<init>", desc := "()V", sig := { parameters := [], returnType := none }, accessFlags := 0, code := none }
def k11c1 : Code := { maxStack := 2, maxLocals := 2, code := jdk_52_method_15_code, exceptionTable := #[], attributes := #[] }
def k11m1 : Method := { name := "coderFromArrayLen", desc := "([BI)B", sig := { parameters := [(.array .byte), .int], returnType := some .byte }, accessFlags := 8, code := some k11c1 }
def k11c2 : Code := { maxStack := 5, maxLocals := 6, code := jdk_52_method_16_code, exceptionTable := #[], attributes := #[] }
def k11m2 : Method := { name := "compress", desc := "([CII)[B", sig := { parameters := [(.array .char), .int, .int], returnType := some (.array .byte) }, accessFlags := 9, code := some k11c2 }
def k11c3 : Code := { maxStack := 3, maxLocals := 7, code := jdk_52_method_21_code, exceptionTable := #[], attributes := #[] }
def k11m3 : Method := { name := "compress", desc := "([CI[BII)I", sig := { parameters := [(.array .char), .int, (.array .byte), .int, .int], returnType := some .int }, accessFlags := 9, code := some k11c3 }
/-- java/lang/StringUTF16 -/
def k11 : Class := { plain "java/lang/StringUTF16" (some 0) with
  accessFlags := 48
  interfaces := #[]
  cf := some (fileOf pool11 12 #[.nestMembers #[627, 629, 369]] #[{ accessFlags := 0, nameIndex := 9, descriptorIndex := 10, attributes := #[] }, { accessFlags := 8, nameIndex := 261, descriptorIndex := 262, attributes := #[] }, { accessFlags := 9, nameIndex := 117, descriptorIndex := 122, attributes := #[] }, { accessFlags := 9, nameIndex := 117, descriptorIndex := 118, attributes := #[] }] 48 6 #[] #[{ accessFlags := 26, nameIndex := 61, descriptorIndex := 62, attributes := #[] }, { accessFlags := 26, nameIndex := 65, descriptorIndex := 62, attributes := #[] }, { accessFlags := 24, nameIndex := 430, descriptorIndex := 62, attributes := #[] }, { accessFlags := 4120, nameIndex := 46, descriptorIndex := 47, attributes := #[] }])
  fields := #[{ name := "HI_BYTE_SHIFT", type := .int, accessFlags := 26, slot := 0, constantValue := 0 }, { name := "LO_BYTE_SHIFT", type := .int, accessFlags := 26, slot := 1, constantValue := 0 }, { name := "MAX_LENGTH", type := .int, accessFlags := 24, slot := 2, constantValue := 0 }, { name := "$assertionsDisabled", type := .boolean, accessFlags := 4120, slot := 3, constantValue := 0 }]
  methods := #[k11m0, k11m1, k11m2, k11m3]
  instanceTypes := #[]
  staticTypes := #[.int, .int, .int, .boolean]
  resolved := Array.replicate 635 none
  statics := none }

def pool12 : Array CpInfo := pool [(2, .class_ 4), (1, u "java/lang/Object"), (0, u "<init>"), (0, u "()V"), (17, .class_ 26), (1, u "jdk/internal/util/Preconditions"), (28, .class_ 56), (0, u "jdk/internal/util/Preconditions$4"), (57, .class_ 115), (0, u "jdk/internal/util/Preconditions$1"), (7, u "SIOOBE_FORMATTER"), (0, u "Ljava/util/function/BiFunction;"), (0, .class_ 126), (0, u "jdk/internal/util/Preconditions$2"), (3, u "AIOOBE_FORMATTER"), (0, .class_ 132), (0, u "jdk/internal/util/Preconditions$3"), (3, u "IOOBE_FORMATTER")] 57

def k12m0 : Method := { name := "<init>", desc := "()V", sig := { parameters := [], returnType := none }, accessFlags := 1, code := none }
/-- jdk/internal/util/Preconditions -/
def k12 : Class := { plain "jdk/internal/util/Preconditions" (some 0) with
  accessFlags := 33
  interfaces := #[]
  cf := some (fileOf pool12 24 #[.nestMembers #[55, 131, 125, 114]] #[{ accessFlags := 1, nameIndex := 5, descriptorIndex := 6, attributes := #[] }] 33 2 #[] #[{ accessFlags := 25, nameIndex := 123, descriptorIndex := 124, attributes := #[] }, { accessFlags := 25, nameIndex := 130, descriptorIndex := 124, attributes := #[] }, { accessFlags := 25, nameIndex := 136, descriptorIndex := 124, attributes := #[] }])
  fields := #[{ name := "SIOOBE_FORMATTER", type := (.object "java/util/function/BiFunction"), accessFlags := 25, slot := 0, constantValue := 0 }, { name := "AIOOBE_FORMATTER", type := (.object "java/util/function/BiFunction"), accessFlags := 25, slot := 1, constantValue := 0 }, { name := "IOOBE_FORMATTER", type := (.object "java/util/function/BiFunction"), accessFlags := 25, slot := 2, constantValue := 0 }]
  methods := #[k12m0]
  instanceTypes := #[]
  staticTypes := #[(.object "java/util/function/BiFunction"), (.object "java/util/function/BiFunction"), (.object "java/util/function/BiFunction")]
  resolved := Array.replicate 194 none
  statics := some 2 }

def pool13 : Array CpInfo := pool [(9, u "<init>"), (6, .class_ 18), (1, u "java/lang/Object"), (0, u "()V"), (1, .class_ 23), (1, u "jdk/internal/util/ArraysSupport"), (0, u "LOG2_ARRAY_LONG_INDEX_SCALE"), (0, u "I"), (2, u "U"), (0, u "Ljdk/internal/misc/Unsafe;"), (8, u "BIG_ENDIAN"), (0, u "Z"), (8, u "LOG2_BYTE_BIT_SIZE"), (4, u "LOG2_ARRAY_INT_INDEX_SCALE"), (54, u "JLA"), (0, u "Ljdk/internal/access/JavaLangAccess;"), (11, u "LOG2_ARRAY_BOOLEAN_INDEX_SCALE"), (9, u "LOG2_ARRAY_BYTE_INDEX_SCALE"), (5, u "LOG2_ARRAY_CHAR_INDEX_SCALE"), (5, u "LOG2_ARRAY_SHORT_INDEX_SCALE"), (18, u "LOG2_ARRAY_FLOAT_INDEX_SCALE"), (24, u "LOG2_ARRAY_DOUBLE_INDEX_SCALE"), (89, u "T_BOOLEAN"), (2, u "T_CHAR"), (1, u "T_FLOAT"), (1, u "T_DOUBLE"), (1, u "T_BYTE"), (1, u "T_SHORT"), (1, u "T_INT"), (1, u "T_LONG"), (1, u "SOFT_MAX_ARRAY_LENGTH")] 83

def k13m0 : Method := { name := "<init>", desc := "()V", sig := { parameters := [], returnType := none }, accessFlags := 2, code := none }
/-- jdk/internal/util/ArraysSupport -/
def k13 : Class := { plain "jdk/internal/util/ArraysSupport" (some 0) with
  accessFlags := 33
  interfaces := #[]
  cf := some (fileOf pool13 21 #[] #[{ accessFlags := 2, nameIndex := 9, descriptorIndex := 19, attributes := #[] }] 33 16 #[] #[{ accessFlags := 24, nameIndex := 28, descriptorIndex := 29, attributes := #[] }, { accessFlags := 26, nameIndex := 38, descriptorIndex := 39, attributes := #[] }, { accessFlags := 25, nameIndex := 121, descriptorIndex := 25, attributes := #[] }, { accessFlags := 25, nameIndex := 131, descriptorIndex := 25, attributes := #[] }, { accessFlags := 25, nameIndex := 137, descriptorIndex := 25, attributes := #[] }, { accessFlags := 25, nameIndex := 143, descriptorIndex := 25, attributes := #[] }, { accessFlags := 25, nameIndex := 53, descriptorIndex := 25, attributes := #[] }, { accessFlags := 25, nameIndex := 24, descriptorIndex := 25, attributes := #[] }, { accessFlags := 25, nameIndex := 162, descriptorIndex := 25, attributes := #[] }, { accessFlags := 25, nameIndex := 187, descriptorIndex := 25, attributes := #[] }, { accessFlags := 26, nameIndex := 48, descriptorIndex := 25, attributes := #[] }, { accessFlags := 25, nameIndex := 277, descriptorIndex := 25, attributes := #[] }, { accessFlags := 25, nameIndex := 280, descriptorIndex := 25, attributes := #[] }, { accessFlags := 25, nameIndex := 282, descriptorIndex := 25, attributes := #[] }, { accessFlags := 25, nameIndex := 284, descriptorIndex := 25, attributes := #[] }, { accessFlags := 25, nameIndex := 286, descriptorIndex := 25, attributes := #[] }, { accessFlags := 25, nameIndex := 288, descriptorIndex := 25, attributes := #[] }, { accessFlags := 25, nameIndex := 290, descriptorIndex := 25, attributes := #[] }, { accessFlags := 25, nameIndex := 292, descriptorIndex := 25, attributes := #[] }, { accessFlags := 26, nameIndex := 108, descriptorIndex := 109, attributes := #[] }, { accessFlags := 25, nameIndex := 294, descriptorIndex := 25, attributes := #[] }])
  fields := #[{ name := "U", type := (.object "jdk/internal/misc/Unsafe"), accessFlags := 24, slot := 0, constantValue := 0 }, { name := "BIG_ENDIAN", type := .boolean, accessFlags := 26, slot := 1, constantValue := 0 }, { name := "LOG2_ARRAY_BOOLEAN_INDEX_SCALE", type := .int, accessFlags := 25, slot := 2, constantValue := 0 }, { name := "LOG2_ARRAY_BYTE_INDEX_SCALE", type := .int, accessFlags := 25, slot := 3, constantValue := 0 }, { name := "LOG2_ARRAY_CHAR_INDEX_SCALE", type := .int, accessFlags := 25, slot := 4, constantValue := 0 }, { name := "LOG2_ARRAY_SHORT_INDEX_SCALE", type := .int, accessFlags := 25, slot := 5, constantValue := 0 }, { name := "LOG2_ARRAY_INT_INDEX_SCALE", type := .int, accessFlags := 25, slot := 6, constantValue := 0 }, { name := "LOG2_ARRAY_LONG_INDEX_SCALE", type := .int, accessFlags := 25, slot := 7, constantValue := 0 }, { name := "LOG2_ARRAY_FLOAT_INDEX_SCALE", type := .int, accessFlags := 25, slot := 8, constantValue := 0 }, { name := "LOG2_ARRAY_DOUBLE_INDEX_SCALE", type := .int, accessFlags := 25, slot := 9, constantValue := 0 }, { name := "LOG2_BYTE_BIT_SIZE", type := .int, accessFlags := 26, slot := 10, constantValue := 0 }, { name := "T_BOOLEAN", type := .int, accessFlags := 25, slot := 11, constantValue := 0 }, { name := "T_CHAR", type := .int, accessFlags := 25, slot := 12, constantValue := 0 }, { name := "T_FLOAT", type := .int, accessFlags := 25, slot := 13, constantValue := 0 }, { name := "T_DOUBLE", type := .int, accessFlags := 25, slot := 14, constantValue := 0 }, { name := "T_BYTE", type := .int, accessFlags := 25, slot := 15, constantValue := 0 }, { name := "T_SHORT", type := .int, accessFlags := 25, slot := 16, constantValue := 0 }, { name := "T_INT", type := .int, accessFlags := 25, slot := 17, constantValue := 0 }, { name := "T_LONG", type := .int, accessFlags := 25, slot := 18, constantValue := 0 }, { name := "JLA", type := (.object "jdk/internal/access/JavaLangAccess"), accessFlags := 26, slot := 19, constantValue := 0 }, { name := "SOFT_MAX_ARRAY_LENGTH", type := .int, accessFlags := 25, slot := 20, constantValue := 0 }]
  methods := #[k13m0]
  instanceTypes := #[]
  staticTypes := #[(.object "jdk/internal/misc/Unsafe"), .boolean, .int, .int, .int, .int, .int, .int, .int, .int, .int, .int, .int, .int, .int, .int, .int, .int, .int, (.object "jdk/internal/access/JavaLangAccess"), .int]
  resolved := Array.replicate 378 none
  statics := none }

def pool14 : Array CpInfo := pool [(1, u "java/lang/Cloneable"), (0, .class_ 1), (0, u "java/lang/Object"), (0, .class_ 3)] 3

/-- java/lang/Cloneable -/
def k14 : Class := { plain "java/lang/Cloneable" (some 0) with
  accessFlags := 1537
  interfaces := #[]
  cf := some (fileOf pool14 2 #[] #[] 1537 4 #[] #[])
  fields := #[]
  methods := #[]
  instanceTypes := #[]
  staticTypes := #[]
  resolved := Array.replicate 8 none
  statics := none }

/-- the primitive byte -/
def k15 : Class := { plain "byte" none with kind := .primitive 'B', accessFlags := 0x411 }
/-- [B -/
def k16 : Class := { plain "[B" (some 0) with kind := .array 15 .byte, interfaces := #[14, 2], accessFlags := 1041 }

/-- the primitive char -/
def k17 : Class := { plain "char" none with kind := .primitive 'C', accessFlags := 0x411 }
/-- [C -/
def k18 : Class := { plain "[C" (some 0) with kind := .array 17 .char, interfaces := #[14, 2], accessFlags := 1041 }

/-- the primitive int -/
def k19 : Class := { plain "int" none with kind := .primitive 'I', accessFlags := 0x411 }
/-- [I -/
def k20 : Class := { plain "[I" (some 0) with kind := .array 19 .int, interfaces := #[14, 2], accessFlags := 1041 }

def heap : Heap := #[{ cls := 7, slots := #[.long 0, .int 1, .null, .int 0, .null, .int 0, .int 0], vm := .statics 7 },
  { cls := 9, slots := #[.ref 7, .ref 8, .null, .null], vm := .statics 9 },
  { cls := 12, slots := #[.null, .null, .null], vm := .statics 12 },
  { cls := 16, slots := #[.int 108, .int 117, .int 109, .int 112, .int 45, .int 115, .int 117, .int 109], vm := .none },
  { cls := 16, slots := #[.int 105, .int 110, .int 115, .int 116, .int 97, .int 108, .int 108, .int 109, .int 101, .int 110, .int 116, .int 115], vm := .none },
  { cls := 7, slots := #[.ref 3, .int 0, .int 0, .int 0], vm := .none },
  { cls := 7, slots := #[.ref 4, .int 0, .int 0, .int 0], vm := .none },
  { cls := 9, slots := #[.null, .int 0, .int 0, .ref 5], vm := .none },
  { cls := 9, slots := #[.null, .int 1, .int 0, .ref 6], vm := .none }]
def classes : Array Class := #[k0, k1, k2, k3, k4, k5, k6, k7, k8, k9, k10, k11, k12, k13, k14, k15, k16, k17, k18, k19, k20]
def interned : List (Array UInt16 × Addr) := []
def slotsUsed : Nat := 50
def theMethod : MethodId := ⟨1, 1⟩
def args0 : Array Value := #[.int 5, .int 1, .int 2, .int 3]
def aboutOver (below : List Frame) : State where
  vm := { classes := classes, interned := interned.toArray }
  heap := heap
  slotsUsed := slotsUsed
  threads := #[{ frames := .invoking theMethod args0 :: below }]
def below0 : List Frame := [.native { method := ⟨0, 0⟩, args := #[] }]
def about1 : State := aboutOver below0
def p0 : Program := .bare "" "" ""
def e0 : Env := launch0.env 0 0 0
theorem w_frames : about1.frames = Frame.invoking theMethod args0 :: below0 := rfl
set_option maxRecDepth 65536 in
theorem w_args : argsFit about1.vm theMethod args0 = true := by decide +kernel
set_option maxRecDepth 65536 in
theorem w_heap : heapFits about1 = true := by decide +kernel
set_option maxRecDepth 65536 in
theorem w_runnable : about1.curStatus? = some .runnable := by decide +kernel
set_option maxRecDepth 65536 in
theorem w_alone : about1.alone = true := by decide +kernel
set_option maxRecDepth 65536 in
theorem w_named : about1.methodNamed? x = some theMethod := by decide +kernel
set_option maxRecDepth 65536 in
theorem w_hears : about1.hears theMethod below0 = true := by decide +kernel
set_option maxRecDepth 65536 in
theorem w_ripe : about1.ripe theMethod args0 below0 = true := by decide +kernel
theorem w_running : about1.status = .running := rfl
set_option maxRecDepth 65536 in
theorem w_room : about1.hasRoom e0.platform room_1 = true :=
  launch0.hasRoom_least _ room_1 (by decide +kernel) (by decide +kernel) (by decide +kernel) (by decide +kernel) (by decide +kernel) (by decide +kernel)
theorem allAtoms_all (ts : List Jvm.Cond) (a : Array Jvm.Value) (st : Jvm.State) : (allAtoms ts).before a st = ts.all (fun c => c.before a st) := by
  induction ts with
  | nil => rfl
  | cons c t ih =>
    show (Jvm.Cond.and c (allAtoms t)).before a st = _
    rw [Jvm.Cond.before_and, ih, List.all_cons]
def words1 : List Jvm.Cond := Jvm.Cond.code x code maxLocals ret :: tables_1
/-- a 'code' word, met by the world's own term for the bytes: nothing is compared byte by byte -/
theorem code_word {y : MethodName} {bytes : ByteArray} {mx : Nat} {rt : Option FieldType} {a : Array Value} {s : State} {m : MethodId} {meth : Method} {c : Code} (h1 : s.methodNamed? y = some m) (h2 : s.vm.method? m = some meth) (h3 : meth.code = some c) (h4 : c.code = bytes)
    (h5 : (c.maxLocals == mx && c.exceptionTable.isEmpty && decide (c.maxStack ≤ mostOperands) && decide (meth.sig.returnType = rt) && !meth.locks && decide (parseMethodDescriptor y.desc = some meth.sig)) = true) : (Jvm.Cond.code y bytes mx rt).before a s = true := by
  simp only [Bool.and_eq_true, beq_iff_eq, Bool.not_eq_true', decide_eq_true_eq] at h5
  obtain ⟨⟨⟨⟨⟨g1, g2⟩, g3⟩, g4⟩, g5⟩, g6⟩ := h5
  simp [Cond.before, Cond.holds, Cond.value, h1, h2, h3, h4, g1, g2, g3, g4, g5, g6]
def isCode : Jvm.Cond → Bool
  | .code _ _ _ _ => true
  | _ => false
theorem all_split {L : List Jvm.Cond} {P : Jvm.Cond → Bool} (h1 : L.all (fun c => isCode c || P c) = true) (h2 : ∀ c ∈ L.filter isCode, P c = true) : L.all P = true := by
  refine List.all_eq_true.mpr fun c hc => ?_
  have h := List.all_eq_true.mp h1 c hc
  rcases Bool.eq_false_or_eq_true (isCode c) with hi | hi
  · exact h2 c (List.mem_filter.mpr ⟨hc, hi⟩)
  · simpa [hi] using h
set_option maxRecDepth 65536 in
theorem w_c0 : (Jvm.Cond.code x code maxLocals ret).before args0 about1 = true := code_word (m := ⟨1, 1⟩) (meth := k1m1) (c := k1c1) (by decide +kernel) rfl rfl rfl (by decide +kernel)
set_option maxRecDepth 65536 in
theorem w_c1 : (Jvm.Cond.code ({ cls := "java/lang/String", name := "equals", desc := "(Ljava/lang/Object;)Z" } : Jvm.MethodName) jdk_42_method_66_code (3 : Nat) (Option.some Jvm.ClassFile.FieldType.boolean)).before args0 about1 = true := code_word (m := ⟨7, 2⟩) (meth := k7m2) (c := k7c2) (by decide +kernel) rfl rfl rfl (by decide +kernel)
set_option maxRecDepth 65536 in
theorem w_c2 : (Jvm.Cond.code ({ cls := "com/example/vestry/vestry/census/PaymentForm", name := "appliedFor", desc := "(Ljava/lang/String;)Lcom/example/vestry/vestry/census/PaymentForm;" } : Jvm.MethodName) prog_41_method_4_code (2 : Nat) (Option.some (Jvm.ClassFile.FieldType.object "com/example/vestry/vestry/census/PaymentForm"))).before args0 about1 = true := code_word (m := ⟨9, 0⟩) (meth := k9m0) (c := k9c0) (by decide +kernel) rfl rfl rfl (by decide +kernel)
set_option maxRecDepth 65536 in
theorem w_c3 : (Jvm.Cond.code ({ cls := "java/lang/StringLatin1", name := "equals", desc := "([B[B)Z" } : Jvm.MethodName) jdk_43_method_13_code (3 : Nat) (Option.some Jvm.ClassFile.FieldType.boolean)).before args0 about1 = true := code_word (m := ⟨10, 1⟩) (meth := k10m1) (c := k10c1) (by decide +kernel) rfl rfl rfl (by decide +kernel)
set_option maxRecDepth 65536 in
theorem w_c4 : (Jvm.Cond.code ({ cls := "java/lang/String", name := "<init>", desc := "([C)V" } : Jvm.MethodName) jdk_42_method_3_code (2 : Nat) (Option.none : Option Jvm.ClassFile.FieldType)).before args0 about1 = true := code_word (m := ⟨7, 1⟩) (meth := k7m1) (c := k7c1) (by decide +kernel) rfl rfl rfl (by decide +kernel)
set_option maxRecDepth 65536 in
theorem w_c5 : (Jvm.Cond.code ({ cls := "java/lang/String", name := "<init>", desc := "([CIILjava/lang/Void;)V" } : Jvm.MethodName) jdk_42_method_149_code (6 : Nat) (Option.none : Option Jvm.ClassFile.FieldType)).before args0 about1 = true := code_word (m := ⟨7, 3⟩) (meth := k7m3) (c := k7c3) (by decide +kernel) rfl rfl rfl (by decide +kernel)
set_option maxRecDepth 65536 in
theorem w_c6 : (Jvm.Cond.code ({ cls := "java/lang/Object", name := "<init>", desc := "()V" } : Jvm.MethodName) object_method_1_code (1 : Nat) (Option.none : Option Jvm.ClassFile.FieldType)).before args0 about1 = true := code_word (m := ⟨0, 0⟩) (meth := k0m0) (c := k0c0) (by decide +kernel) rfl rfl rfl (by decide +kernel)
set_option maxRecDepth 65536 in
theorem w_c7 : (Jvm.Cond.code ({ cls := "java/lang/StringUTF16", name := "compress", desc := "([CII)[B" } : Jvm.MethodName) jdk_52_method_16_code (6 : Nat) (Option.some (Jvm.ClassFile.FieldType.array Jvm.ClassFile.FieldType.byte))).before args0 about1 = true := code_word (m := ⟨11, 2⟩) (meth := k11m2) (c := k11c2) (by decide +kernel) rfl rfl rfl (by decide +kernel)
set_option maxRecDepth 65536 in
theorem w_c8 : (Jvm.Cond.code ({ cls := "java/lang/StringUTF16", name := "compress", desc := "([CI[BII)I" } : Jvm.MethodName) jdk_52_method_21_code (7 : Nat) (Option.some Jvm.ClassFile.FieldType.int)).before args0 about1 = true := code_word (m := ⟨11, 3⟩) (meth := k11m3) (c := k11c3) (by decide +kernel) rfl rfl rfl (by decide +kernel)
set_option maxRecDepth 65536 in
theorem w_c9 : (Jvm.Cond.code ({ cls := "java/lang/StringUTF16", name := "coderFromArrayLen", desc := "([BI)B" } : Jvm.MethodName) jdk_52_method_15_code (2 : Nat) (Option.some Jvm.ClassFile.FieldType.byte)).before args0 about1 = true := code_word (m := ⟨11, 1⟩) (meth := k11m1) (c := k11c1) (by decide +kernel) rfl rfl rfl (by decide +kernel)
def codes1 : List Jvm.Cond := [Jvm.Cond.code x code maxLocals ret, Jvm.Cond.code ({ cls := "java/lang/String", name := "equals", desc := "(Ljava/lang/Object;)Z" } : Jvm.MethodName) jdk_42_method_66_code (3 : Nat) (Option.some Jvm.ClassFile.FieldType.boolean), Jvm.Cond.code ({ cls := "com/example/vestry/vestry/census/PaymentForm", name := "appliedFor", desc := "(Ljava/lang/String;)Lcom/example/vestry/vestry/census/PaymentForm;" } : Jvm.MethodName) prog_41_method_4_code (2 : Nat) (Option.some (Jvm.ClassFile.FieldType.object "com/example/vestry/vestry/census/PaymentForm")), Jvm.Cond.code ({ cls := "java/lang/StringLatin1", name := "equals", desc := "([B[B)Z" } : Jvm.MethodName) jdk_43_method_13_code (3 : Nat) (Option.some Jvm.ClassFile.FieldType.boolean), Jvm.Cond.code ({ cls := "java/lang/String", name := "<init>", desc := "([C)V" } : Jvm.MethodName) jdk_42_method_3_code (2 : Nat) (Option.none : Option Jvm.ClassFile.FieldType), Jvm.Cond.code ({ cls := "java/lang/String", name := "<init>", desc := "([CIILjava/lang/Void;)V" } : Jvm.MethodName) jdk_42_method_149_code (6 : Nat) (Option.none : Option Jvm.ClassFile.FieldType), Jvm.Cond.code ({ cls := "java/lang/Object", name := "<init>", desc := "()V" } : Jvm.MethodName) object_method_1_code (1 : Nat) (Option.none : Option Jvm.ClassFile.FieldType), Jvm.Cond.code ({ cls := "java/lang/StringUTF16", name := "compress", desc := "([CII)[B" } : Jvm.MethodName) jdk_52_method_16_code (6 : Nat) (Option.some (Jvm.ClassFile.FieldType.array Jvm.ClassFile.FieldType.byte)), Jvm.Cond.code ({ cls := "java/lang/StringUTF16", name := "compress", desc := "([CI[BII)I" } : Jvm.MethodName) jdk_52_method_21_code (7 : Nat) (Option.some Jvm.ClassFile.FieldType.int), Jvm.Cond.code ({ cls := "java/lang/StringUTF16", name := "coderFromArrayLen", desc := "([BI)B" } : Jvm.MethodName) jdk_52_method_15_code (2 : Nat) (Option.some Jvm.ClassFile.FieldType.byte)]
set_option maxRecDepth 65536 in
theorem codes_eq : words1.filter isCode = codes1 := rfl
theorem w_codes : ∀ c ∈ words1.filter isCode, c.before args0 about1 = true := by
  rw [codes_eq]
  intro c hc
  simp only [codes1, List.mem_cons, List.not_mem_nil, or_false] at hc
  rcases hc with rfl | rfl | rfl | rfl | rfl | rfl | rfl | rfl | rfl | rfl
  · exact w_c0
  · exact w_c1
  · exact w_c2
  · exact w_c3
  · exact w_c4
  · exact w_c5
  · exact w_c6
  · exact w_c7
  · exact w_c8
  · exact w_c9
set_option maxRecDepth 65536 in
theorem w_t1 : (words1.take 24).all (fun c => isCode c || c.before args0 about1) = true := by decide +kernel
set_option maxRecDepth 65536 in
theorem w_t2 : ((words1.drop 24).take 24).all (fun c => isCode c || c.before args0 about1) = true := by decide +kernel
set_option maxRecDepth 65536 in
theorem w_t3 : ((words1.drop 24).drop 24).all (fun c => isCode c || c.before args0 about1) = true := by decide +kernel
theorem w_tables : (allAtoms (Jvm.Cond.code x code maxLocals ret :: tables_1)).before args0 about1 = true := by
  rw [allAtoms_all]
  show words1.all (fun c => c.before args0 about1) = true
  refine all_split ?_ w_codes
  rw [← List.take_append_drop 24 words1, List.all_append, w_t1, ← List.take_append_drop 24 (words1.drop 24), List.all_append, w_t2, w_t3]
  rfl
set_option maxRecDepth 65536 in
theorem w_rest : rest_1_c.before args0 about1 = true := by decide +kernel
set_option maxRecDepth 65536 in
theorem w_case : (Jvm.Cond.and given_1 narrow_1).before args0 about1 = true := by decide +kernel
set_option maxRecDepth 65536 in
theorem w_consts : constsHeld consts_1 about1 := Jvm.Lit.constsHeldB_iff.mp (by decide +kernel)
theorem w_applies : (headSpec (Jvm.Cond.code x code maxLocals ret :: tables_1) room_1).applies x e0.platform about1 = true :=
  (Spec.applies_iff w_frames).mpr ⟨w_running, w_runnable, w_alone, w_named, w_hears, w_ripe, w_room, w_tables⟩
theorem atStart : AtStart classFile x code maxLocals ret World_1 tables_1 room_1 Calls_1 rest_1 Pre_1 launch0 p0 e0 about1 theMethod args0 below0 :=
  ⟨lists_1, trivial, launch0.admits_env _ _ _, launch0.least_env, fairChoices_fair.cas, fairChoices_fair.clock, w_frames, w_args, w_heap, w_applies, ⟨w_consts, trivial⟩, w_rest, w_case⟩
end start1
theorem witness_1 : WitnessClaimed_1 := ⟨start1.p0, start1.e0, start1.about1, start1.theMethod, start1.args0, start1.below0, start1.atStart⟩
end Jvm.Pilot.@@N@@
