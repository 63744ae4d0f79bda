import JvmDerived
import JvmDerived.Pilot.@@N@@Statement
import JvmDerived.Pilot.@@N@@Code
set_option linter.unusedVariables false
set_option linter.unusedSimpArgs false
@@BLOCK:TracedD.lean.txt@@
namespace Jvm.Pilot.@@N@@
/-- the frame is the narrow one -/
def NW : Bool := false
end Jvm.Pilot.@@N@@
/- laws to paste: Road.backV, Road.codOf, Road.lenW, Road.chN (cut by pick.py; bodies as the Statement names them) -/
namespace Jvm.Pilot.@@N@@
namespace StrChars
open Jvm Sem ClassFile Op Lib Jvm.Stand Jvm.Free.XT Jvm.Free.ALB Jvm.Free.JM Jvm.Free
open Jvm.Lib.Cold (StaticIs)
/-- a char array whose places are chars -/
def Ch (a : Addr) (A : Cell) (U : State) : Prop := Arr .char a A U ∧ Typed .char A
theorem Ch.mv {a : Addr} {A : Cell} {U U' : State} (h : Ch a A U) (hal : U.vm.Alike U'.vm) (hh : U'.heap = U.heap) : Ch a A U' := ⟨h.1.mv hal hh, h.2⟩
theorem Ch.keep {a : Addr} {A : Cell} {U U' : State} (h : Ch a A U) (hal : U.vm.Alike U'.vm) (hk : U'.heap[a]? = some A) : Ch a A U' := ⟨h.1.keep hal hk, h.2⟩
/-- what place i of a char[]'s cell holds -/
def cv (A : Cell) (i : Nat) : Int32 := match A.slots[i]? with | some (.int x) => x | _ => 0
theorem Ch.get {a : Addr} {A : Cell} {U : State} (h : Ch a A U) {i : Nat} (hi : i < A.slots.size) : A.slots[i]? = some (.int (cv A i)) := by
  have e := Array.getElem?_eq_getElem hi
  have f := h.2 i _ e
  unfold cv; rw [e]
  generalize A.slots[i] = v at f
  cases v <;> simp [fits] at f ⊢
/-- the byte that i2b leaves of a char -/
def lo8 (x : Int32) : Int32 := x.toInt8.toInt32
theorem fits_lo8 (y : Int32) : fits .byte (.int (lo8 y)) = true := by
  have h1 := y.toInt8.le_toInt
  have h2 := y.toInt8.toInt_lt
  simp only [lo8, fits, Bool.and_eq_true, decide_eq_true_eq, Int32.le_iff_toInt_le, Int8.toInt_toInt32, show (-128 : Int32).toInt = -128 from by decide, show (127 : Int32).toInt = 127 from by decide]
  omega
/-- A' is A but that each place j of lo .. hi - 1 holds f j -/
def Laid (A A' : Cell) (lo hi : Nat) (f : Nat → Value) : Prop := A'.cls = A.cls ∧ A'.vm = A.vm ∧ A'.slots.size = A.slots.size ∧ ∀ i, A'.slots[i]? = if lo ≤ i ∧ i < hi then some (f i) else A.slots[i]?
theorem Laid.zero (A : Cell) (lo : Nat) (f : Nat → Value) : Laid A A lo (lo + 0) f := ⟨rfl, rfl, rfl, fun i => by rw [if_neg (by omega)]⟩
theorem Laid.step {A Ak : Cell} {lo k : Nat} {f : Nat → Value} {v : Value} (h : Laid A Ak lo k f) (hlo : lo ≤ k) (hk : k < Ak.slots.size) (hv : v = f k) : Laid A (Ak.setSlot k v) lo (k + 1) f := by
  refine ⟨h.1, h.2.1, by simpa [Cell.setSlot] using h.2.2.1, fun i => ?_⟩
  by_cases e : k = i
  · subst e; rw [Cell.slots_setSlot_self v hk, if_pos (by omega), hv]
  · rw [Cell.slots_setSlot_ne v e, h.2.2.2 i]
    by_cases q : lo ≤ i ∧ i < k
    · rw [if_pos q, if_pos (by omega)]
    · rw [if_neg q, if_neg (by omega)]
def U16 : String := "java/lang/StringUTF16"
namespace Cmp5
def yN : MethodName := ⟨"java/lang/StringUTF16", "compress", "([CI[BII)I"⟩
abbrev yB : ByteArray := jdk_52_method_21_code
theorem d0 : decode yB 0 = .ok (.iconst 0, 1) := by decide +kernel
theorem d1 : decode yB 1 = .ok (.istore 5, 2) := by decide +kernel
theorem d3 : decode yB 3 = .ok (.iload 5, 2) := by decide +kernel
theorem d5 : decode yB 5 = .ok (.iload 4, 2) := by decide +kernel
theorem d7 : decode yB 7 = .ok (.if_icmp (.ge) 37, 3) := by decide +kernel
theorem d10 : decode yB 10 = .ok (.aload_n 0, 1) := by decide +kernel
theorem d11 : decode yB 11 = .ok (.iload_n 1, 1) := by decide +kernel
theorem d12 : decode yB 12 = .ok (.caload, 1) := by decide +kernel
theorem d13 : decode yB 13 = .ok (.istore 6, 2) := by decide +kernel
theorem d15 : decode yB 15 = .ok (.iload 6, 2) := by decide +kernel
theorem d17 : decode yB 17 = .ok (.sipush 255, 3) := by decide +kernel
theorem d20 : decode yB 20 = .ok (.if_icmp (.le) 6, 3) := by decide +kernel
theorem d26 : decode yB 26 = .ok (.aload_n 2, 1) := by decide +kernel
theorem d27 : decode yB 27 = .ok (.iload_n 3, 1) := by decide +kernel
theorem d28 : decode yB 28 = .ok (.iload 6, 2) := by decide +kernel
theorem d30 : decode yB 30 = .ok (.i2b, 1) := by decide +kernel
theorem d31 : decode yB 31 = .ok (.bastore, 1) := by decide +kernel
theorem d32 : decode yB 32 = .ok (.iinc 1 1, 3) := by decide +kernel
theorem d35 : decode yB 35 = .ok (.iinc 3 1, 3) := by decide +kernel
theorem d38 : decode yB 38 = .ok (.iinc 5 1, 3) := by decide +kernel
theorem d41 : decode yB 41 = .ok (.goto (-38), 3) := by decide +kernel
theorem d44 : decode yB 44 = .ok (.iload 4, 2) := by decide +kernel
theorem d46 : decode yB 46 = .ok (.ireturn, 1) := by decide +kernel
def site : List Cond := []
def tab : Cond := tabOf yN yB 7 (some .int) site
def P (b : Addr) (A : Cell) (d : Addr) (B : Cell) (o q len : Nat) (args : Array Value) (s : State) : Prop := args = #[.ref b, .int (Int32.ofNat o), .ref d, .int (Int32.ofNat q), .int (Int32.ofNat len)] ∧ Ch b A s ∧ Arr .byte d B s ∧ b ≠ d ∧ o + len ≤ A.slots.size ∧ q + len ≤ B.slots.size ∧ ∀ i, i < len → ¬ 255 < cv A (o + i)
def E (b : Addr) (A : Cell) (d : Addr) (B : Cell) (o q len : Nat) (r : Option Value) (s u : State) : Prop := r = some (.int (Int32.ofNat len)) ∧ ∃ B', Put d B' s u ∧ Laid B B' q (q + len) (fun j => Value.int (lo8 (cv A (o + (j - q)))))
/-- no char of the range above 255: len; the places written hold each char's low byte -/
theorem law (l : Launch) (b : Addr) (A : Cell) (d : Addr) (B : Cell) (o q len : Nat) : Law l yN 5 5 0 0 yB 7 (some .int) site (P b A d B o q len) (E b A d B o q len) (copyLocs d q len) 0 0 := by
  refine Law.of_walk (plainFor_of_name (by decide +kernel)) (by decide +kernel) (by decide +kernel) (by decide) (fun _ _ h => by rw [h.1]; rfl) (fun _ U U' hal hh h => ⟨h.1, h.2.1.mv hal hh, h.2.2.1.mv hal hh, h.2.2.2⟩) (fun r U U' V V' h1 hal h2 h => ⟨h.1, h.2.elim fun B' q => ⟨B', q.1.mv h1 h2, q.2⟩⟩) ?_
  intro p e s m args below meth c s₁ X0 hexec hbytes hml hret hlk hnm hown hh0 W hP
  obtain ⟨rfl, hA, hB, hne, l1, l2, hp⟩ := hP
  have c1 : Steps p.tables e below (s₁.setTop (entryFrame m #[.ref b, .int (Int32.ofNat o), .ref d, .int (Int32.ofNat q), .int (Int32.ofNat len)] 7)) (s₁.setTop (mkF m 0 #[.val (.ref b), .val (.int (Int32.ofNat o)), .val (.ref d), .val (.int (Int32.ofNat q)), .val (.int (Int32.ofNat len)), .unset, .unset] [])) := entry rfl
  have hA0 := hA.1.mv X0.warmed.alike hh0
  have hB0 := hB.mv X0.warmed.alike hh0
  have a31 := hA.1.2.2.2
  have c2 : Steps p.tables e below (s₁.setTop (entryFrame m #[.ref b, .int (Int32.ofNat o), .ref d, .int (Int32.ofNat q), .int (Int32.ofNat len)] 7)) (s₁.setTop (mkF m 3 #[.val (.ref b), .val (.int (Int32.ofNat o)), .val (.ref d), .val (.int (Int32.ofNat q)), .val (.int (Int32.ofNat len)), .val (.int 0), .unset] [])) := c1.trans (by
    refine iconstV X0.here hexec rfl 0 (hb hbytes d0) (by decide) ?_
    refine XS.istore X0.here hexec rfl (hb hbytes d1) rfl rfl ?_
    exact Steps.refl _)
  have loop : ∀ (r i : Nat), i + r = len → ∀ (z : Slot), (z = .unset ∨ ∃ w, z = .val w ∧ w.category = 1) → ∀ (Tl : State) (Bk : Cell), Stand p l e { frames := 0, locals := 0, cells := 0, slots := 0 } s m #[.ref b, .int (Int32.ofNat o), .ref d, .int (Int32.ofNat q), .int (Int32.ofNat len)] below meth c Tl ([] ++ copyLocs d q i) 0 0 → Put d Bk s₁ Tl → Laid B Bk q (q + i) (fun j => Value.int (lo8 (cv A (o + (j - q))))) →
      Steps p.tables e below (s₁.setTop (entryFrame m #[.ref b, .int (Int32.ofNat o), .ref d, .int (Int32.ofNat q), .int (Int32.ofNat len)] 7)) (Tl.setTop (mkF m 3 #[.val (.ref b), .val (.int (Int32.ofNat (o + i))), .val (.ref d), .val (.int (Int32.ofNat (q + i))), .val (.int (Int32.ofNat len)), .val (.int (Int32.ofNat i)), z] [])) → ∃ (T' : State) (B' : Cell) (z' : Slot), Stand p l e { frames := 0, locals := 0, cells := 0, slots := 0 } s m #[.ref b, .int (Int32.ofNat o), .ref d, .int (Int32.ofNat q), .int (Int32.ofNat len)] below meth c T' ([] ++ copyLocs d q len) 0 0 ∧ Put d B' s₁ T' ∧ Laid B B' q (q + len) (fun j => Value.int (lo8 (cv A (o + (j - q))))) ∧
      Steps p.tables e below (s₁.setTop (entryFrame m #[.ref b, .int (Int32.ofNat o), .ref d, .int (Int32.ofNat q), .int (Int32.ofNat len)] 7)) (T'.setTop (mkF m 3 #[.val (.ref b), .val (.int (Int32.ofNat (o + len))), .val (.ref d), .val (.int (Int32.ofNat (q + len))), .val (.int (Int32.ofNat len)), .val (.int (Int32.ofNat len)), z'] [])) := by
    intro r
    induction r with
    | zero =>
      intro i hi z hz Tl Bk Xl pl fl cl
      have hil : i = len := by omega
      rw [hil] at Xl fl cl
      exact ⟨Tl, Bk, z, Xl, pl, fl, cl⟩
    | succ r ih =>
      intro i hi z hz Tl Bk Xl pl fl cl
      have all := X0.warmed.alike.symm.trans Xl.warmed.alike
      have hAl := hA0.keep all (pl.other hne hA0.1)
      have hBk := hB0.like all pl.1 fl.1 fl.2.1 fl.2.2.1
      have hlt : q + i < Bk.slots.size := by rw [fl.2.2.1]; omega
      have c3 : Steps p.tables e below (s₁.setTop (entryFrame m #[.ref b, .int (Int32.ofNat o), .ref d, .int (Int32.ofNat q), .int (Int32.ofNat len)] 7)) (Tl.setTop (mkF m 12 #[.val (.ref b), .val (.int (Int32.ofNat (o + i))), .val (.ref d), .val (.int (Int32.ofNat (q + i))), .val (.int (Int32.ofNat len)), .val (.int (Int32.ofNat i)), z] [.int (Int32.ofNat (o + i)), .ref b])) := cl.trans (by
        refine XS.iload Xl.here hexec rfl (hb hbytes d3) rfl ?_
        refine XS.iload Xl.here hexec rfl (hb hbytes d5) rfl ?_
        refine XS.icmpNo Xl.here hexec rfl (hb hbytes d7) rfl (ii_ge_f (lt32 (by omega) (by omega))) ?_
        refine XS.aloadN Xl.here hexec rfl (hb hbytes d10) rfl rfl ?_
        refine XS.iloadN Xl.here hexec rfl (hb hbytes d11) rfl ?_
        exact Steps.refl _)
      have c4 : Steps p.tables e below (s₁.setTop (entryFrame m #[.ref b, .int (Int32.ofNat o), .ref d, .int (Int32.ofNat q), .int (Int32.ofNat len)] 7)) (Tl.setTop (mkF m 13 #[.val (.ref b), .val (.int (Int32.ofNat (o + i))), .val (.ref d), .val (.int (Int32.ofNat (q + i))), .val (.int (Int32.ofNat len)), .val (.int (Int32.ofNat i)), z] [.int (cv A (o + i))])) := c3.trans (by
        refine Xl.aget hexec hAl rfl (hA.get (i := o + i) (by omega)) rfl rfl (hb hbytes d12) ?_
        exact Steps.refl _)
      have c5 : Steps p.tables e below (s₁.setTop (entryFrame m #[.ref b, .int (Int32.ofNat o), .ref d, .int (Int32.ofNat q), .int (Int32.ofNat len)] 7)) (Tl.setTop (mkF m 15 #[.val (.ref b), .val (.int (Int32.ofNat (o + i))), .val (.ref d), .val (.int (Int32.ofNat (q + i))), .val (.int (Int32.ofNat len)), .val (.int (Int32.ofNat i)), .val (.int (cv A (o + i)))] [])) := c4.trans (by
        refine XS.istoreS Xl.here hexec rfl (hb hbytes d13) rfl rfl hz ?_
        exact Steps.refl _)
      have c6 : Steps p.tables e below (s₁.setTop (entryFrame m #[.ref b, .int (Int32.ofNat o), .ref d, .int (Int32.ofNat q), .int (Int32.ofNat len)] 7)) (Tl.setTop (mkF m 31 #[.val (.ref b), .val (.int (Int32.ofNat (o + i))), .val (.ref d), .val (.int (Int32.ofNat (q + i))), .val (.int (Int32.ofNat len)), .val (.int (Int32.ofNat i)), .val (.int (cv A (o + i)))] [.int (lo8 (cv A (o + i))), .int (Int32.ofNat (q + i)), .ref d])) := c5.trans (by
        refine XS.iload Xl.here hexec rfl (hb hbytes d15) rfl ?_
        refine sipushV Xl.here hexec rfl 255 (hb hbytes d17) (by decide) ?_
        refine XS.icmpYes Xl.here hexec rfl (pc0 := 20) rfl (hb hbytes d20) rfl (ii_le_t (hp i (by omega))) (by decide) rfl ?_
        refine XS.aloadN Xl.here hexec rfl (hb hbytes d26) rfl rfl ?_
        refine XS.iloadN Xl.here hexec rfl (hb hbytes d27) rfl ?_
        refine XS.iload Xl.here hexec rfl (hb hbytes d28) rfl ?_
        refine i2b Xl.here hexec rfl (hb hbytes d30) rfl ?_
        exact Steps.refl _)
      obtain ⟨T7, X7, p7, st7⟩ := Xl.aput hexec hBk rfl hlt rfl (fits_lo8 (cv A (o + i))) (g := (mkF m 31 #[.val (.ref b), .val (.int (Int32.ofNat (o + i))), .val (.ref d), .val (.int (Int32.ofNat (q + i))), .val (.int (Int32.ofNat len)), .val (.int (Int32.ofNat i)), .val (.int (cv A (o + i)))] [.int (lo8 (cv A (o + i))), .int (Int32.ofNat (q + i)), .ref d])) rfl (rest := []) rfl (hb hbytes d31)
      have c8 : Steps p.tables e below (s₁.setTop (entryFrame m #[.ref b, .int (Int32.ofNat o), .ref d, .int (Int32.ofNat q), .int (Int32.ofNat len)] 7)) (T7.setTop (mkF m 32 #[.val (.ref b), .val (.int (Int32.ofNat (o + i))), .val (.ref d), .val (.int (Int32.ofNat (q + i))), .val (.int (Int32.ofNat len)), .val (.int (Int32.ofNat i)), .val (.int (cv A (o + i)))] [])) := c6.trans (st7 _ (Steps.refl _))
      have c9 : Steps p.tables e below (s₁.setTop (entryFrame m #[.ref b, .int (Int32.ofNat o), .ref d, .int (Int32.ofNat q), .int (Int32.ofNat len)] 7)) (T7.setTop (mkF m 3 #[.val (.ref b), .val (.int (Int32.ofNat (o + i) + 1)), .val (.ref d), .val (.int (Int32.ofNat (q + i) + 1)), .val (.int (Int32.ofNat len)), .val (.int (Int32.ofNat i + 1)), .val (.int (cv A (o + i)))] [])) := c8.trans (by
        refine iincV X7.here hexec rfl 1 (hb hbytes d32) (by decide) rfl rfl ?_
        refine iincV X7.here hexec rfl 1 (hb hbytes d35) (by decide) rfl rfl ?_
        refine iincV X7.here hexec rfl 1 (hb hbytes d38) (by decide) rfl rfl ?_
        refine XS.goto X7.here hexec rfl (pc0 := 41) rfl (hb hbytes d41) (by decide) rfl ?_
        exact Steps.refl _)
      have c10 : Steps p.tables e below (s₁.setTop (entryFrame m #[.ref b, .int (Int32.ofNat o), .ref d, .int (Int32.ofNat q), .int (Int32.ofNat len)] 7)) (T7.setTop (mkF m 3 #[.val (.ref b), .val (.int (Int32.ofNat (o + (i + 1)))), .val (.ref d), .val (.int (Int32.ofNat (q + (i + 1)))), .val (.int (Int32.ofNat len)), .val (.int (Int32.ofNat (i + 1))), .val (.int (cv A (o + i)))] [])) := by
        have := c9
        rw [succ32, succ32, succ32] at this
        exact this
      exact ih (i + 1) (by omega) _ (Or.inr ⟨_, rfl, rfl⟩) T7 _ (by rw [copyLocs_step, ← List.append_assoc]; exact X7) (pl.trans p7) (fl.step (by omega) hlt (by simp)) c10
  obtain ⟨T9, B9, z9, X9, p9, f9, g9⟩ := loop len 0 (by omega) .unset (Or.inl rfl) s₁ B (by simpa [copyLocs] using X0) ⟨hB0.1, fun _ _ => rfl, rfl⟩ (Laid.zero _ _ _) c2
  have c11 : Steps p.tables e below (s₁.setTop (entryFrame m #[.ref b, .int (Int32.ofNat o), .ref d, .int (Int32.ofNat q), .int (Int32.ofNat len)] 7)) (T9.setTop (mkF m 46 #[.val (.ref b), .val (.int (Int32.ofNat (o + len))), .val (.ref d), .val (.int (Int32.ofNat (q + len))), .val (.int (Int32.ofNat len)), .val (.int (Int32.ofNat len)), z9] [.int (Int32.ofNat len)])) := g9.trans (by
    refine XS.iload X9.here hexec rfl (hb hbytes d3) rfl ?_
    refine XS.iload X9.here hexec rfl (hb hbytes d5) rfl ?_
    refine XS.icmpYes X9.here hexec rfl (pc0 := 7) rfl (hb hbytes d7) rfl (ii_ge_t (nlt32 (by omega) (Nat.le_refl _))) (by decide) rfl ?_
    refine XS.iload X9.here hexec rfl (hb hbytes d44) rfl ?_
    exact Steps.refl _)
  exact ⟨T9, some (.int (Int32.ofNat len)), _, _, _, X9, by simp, rfl, rfl, (fun h => by cases h), ⟨rfl, B9, p9.from hh0, f9⟩, fun fs hl => c11.trans (X9.ireturnOut hexec hret rfl (Or.inl rfl) (hb hbytes d46) hl)⟩
end Cmp5
namespace Cmp3
def yN : MethodName := ⟨"java/lang/StringUTF16", "compress", "([CII)[B"⟩
abbrev yB : ByteArray := jdk_52_method_16_code
theorem d0 : decode yB 0 = .ok (.iload_n 2, 1) := by decide +kernel
theorem d1 : decode yB 1 = .ok (.newarray .byte, 2) := by decide +kernel
theorem d3 : decode yB 3 = .ok (.astore_n 3, 1) := by decide +kernel
theorem d4 : decode yB 4 = .ok (.aload_n 0, 1) := by decide +kernel
theorem d5 : decode yB 5 = .ok (.iload_n 1, 1) := by decide +kernel
theorem d6 : decode yB 6 = .ok (.aload_n 3, 1) := by decide +kernel
theorem d7 : decode yB 7 = .ok (.iconst 0, 1) := by decide +kernel
theorem d8 : decode yB 8 = .ok (.iload_n 2, 1) := by decide +kernel
theorem d9 : decode yB 9 = .ok (.invokestatic 115, 3) := by decide +kernel
theorem d12 : decode yB 12 = .ok (.istore 4, 2) := by decide +kernel
theorem d14 : decode yB 14 = .ok (.iload 4, 2) := by decide +kernel
theorem d16 : decode yB 16 = .ok (.iload_n 2, 1) := by decide +kernel
theorem d17 : decode yB 17 = .ok (.if_icmp (.eq) 40, 3) := by decide +kernel
theorem d57 : decode yB 57 = .ok (.aload_n 3, 1) := by decide +kernel
theorem d58 : decode yB 58 = .ok (.areturn, 1) := by decide +kernel
def site : List Cond := [.arrayClass .byte, Cmp5.tab] ++ staticW U16 115 Cmp5.yN
def tab : Cond := tabOf yN yB 6 (some (.array .byte)) site
def P (b : Addr) (A : Cell) (o len : Nat) (args : Array Value) (s : State) : Prop := args = #[.ref b, .int (Int32.ofNat o), .int (Int32.ofNat len)] ∧ Ch b A s ∧ o + len ≤ A.slots.size ∧ len ≤ 536870912 ∧ ∀ i, i < len → ¬ 255 < cv A (o + i)
def E (b : Addr) (A : Cell) (o len : Nat) (r : Option Value) (s u : State) : Prop := NewArr .byte "[B" len (fun j => .int (lo8 (cv A (o + j)))) r s u ∧ u.heap.size = s.heap.size + 1
/-- no char of the range above 255: a new byte[] of their low bytes -/
theorem law (l : Launch) (b : Addr) (A : Cell) (o len : Nat) : Law l yN 3 3 1 18 yB 6 (some (.array .byte)) site (P b A o len) (E b A o len) [] 1 len := by
  refine Law.of_walk (plainFor_of_name (by decide +kernel)) (by decide +kernel) (by decide +kernel) (by decide) (fun _ _ h => by rw [h.1]; rfl) (fun _ U U' hal hh h => ⟨h.1, h.2.1.mv hal hh, h.2.2⟩) (fun r U U' V V' h1 hal h2 h => ⟨NewArr.mv r U U' V V' h1 hal h2 h.1, by rw [h1, h2]; exact h.2⟩) ?_
  intro p e s m args below meth c s₁ X0 hexec hbytes hml hret hlk hnm hown hh0 W hP
  obtain ⟨rfl, hA, l1, l2, hp⟩ := hP
  have a31 := hA.1.2.2.2
  have c1 : Steps p.tables e below (s₁.setTop (entryFrame m #[.ref b, .int (Int32.ofNat o), .int (Int32.ofNat len)] 6)) (s₁.setTop (mkF m 0 #[.val (.ref b), .val (.int (Int32.ofNat o)), .val (.int (Int32.ofNat len)), .unset, .unset, .unset] [])) := entry rfl
  have c2 : Steps p.tables e below (s₁.setTop (entryFrame m #[.ref b, .int (Int32.ofNat o), .int (Int32.ofNat len)] 6)) (s₁.setTop (mkF m 1 #[.val (.ref b), .val (.int (Int32.ofNat o)), .val (.int (Int32.ofNat len)), .unset, .unset, .unset] [.int (Int32.ofNat len)])) := c1.trans (by
    refine XS.iloadN X0.here hexec rfl (hb hbytes d0) rfl ?_
    exact Steps.refl _)
  obtain ⟨T3, B3, X3, ba3, bs3, bv3, bh3, bf3, st3⟩ := X0.anew hexec (atype := .byte) (wk W (.arrayClass .byte)) rfl (by show len * 1 ≤ _; omega) (by omega) (g := (mkF m 1 #[.val (.ref b), .val (.int (Int32.ofNat o)), .val (.int (Int32.ofNat len)), .unset, .unset, .unset] [.int (Int32.ofNat len)])) rfl (hb hbytes d1) (rest := []) rfl (Nat.le_refl _) (by show 0 + len ≤ len; omega)
  rw [hh0] at ba3 st3
  have kp3 : XT.Kept s T3 := (XT.Kept.of_eq hh0).push bh3
  have hA3 := hA.keep X3.warmed.alike (kp3 _ _ hA.1.1)
  have hne : b ≠ s.heap.size := hA.1.ne
  have c4 : Steps p.tables e below (s₁.setTop (entryFrame m #[.ref b, .int (Int32.ofNat o), .int (Int32.ofNat len)] 6)) (T3.setTop (mkF m 3 #[.val (.ref b), .val (.int (Int32.ofNat o)), .val (.int (Int32.ofNat len)), .unset, .unset, .unset] [.ref s.heap.size])) := c2.trans (st3 _ (Steps.refl _))
  have c5 : Steps p.tables e below (s₁.setTop (entryFrame m #[.ref b, .int (Int32.ofNat o), .int (Int32.ofNat len)] 6)) (T3.setTop (mkF m 9 #[.val (.ref b), .val (.int (Int32.ofNat o)), .val (.int (Int32.ofNat len)), .val (.ref s.heap.size), .unset, .unset] [.int (Int32.ofNat len), .int 0, .ref s.heap.size, .int (Int32.ofNat o), .ref b])) := c4.trans (by
    refine XS.astoreN X3.here hexec rfl (hb hbytes d3) rfl rfl rfl ?_
    refine XS.aloadN X3.here hexec rfl (hb hbytes d4) rfl rfl ?_
    refine XS.iloadN X3.here hexec rfl (hb hbytes d5) rfl ?_
    refine XS.aloadN X3.here hexec rfl (hb hbytes d6) rfl rfl ?_
    refine iconstV X3.here hexec rfl 0 (hb hbytes d7) (by decide) ?_
    refine XS.iloadN X3.here hexec rfl (hb hbytes d8) rfl ?_
    exact Steps.refl _)
  obtain ⟨v6, T6, X6, E6, g6⟩ := X3.callS hexec (Cmp5.law l b A s.heap.size B3 o 0 len) hown (wks W (staticW U16 115 Cmp5.yN)) (wk W Cmp5.tab) (W := 0) (Nat.le_of_ble_eq_true rfl) (Nat.le_of_ble_eq_true rfl) (Nat.le_refl _) (by show 0 + len + 0 ≤ len; omega) (g := (mkF m 9 #[.val (.ref b), .val (.int (Int32.ofNat o)), .val (.int (Int32.ofNat len)), .val (.ref s.heap.size), .unset, .unset] [.int (Int32.ofNat len), .int (Int32.ofNat 0), .ref s.heap.size, .int (Int32.ofNat o), .ref b])) rfl (by rw [hml]; rfl) c5 (argsL := [.ref b, .int (Int32.ofNat o), .ref s.heap.size, .int (Int32.ofNat 0), .int (Int32.ofNat len)]) (rest := []) rfl rfl (by show 2 * 0 + 0 ≤ _; decide) (hb hbytes d9) (⟨rfl, hA3, ba3, hne, l1, by rw [bs3]; simp, hp⟩)
  obtain ⟨rfl, B6, p6, f6⟩ := E6
  have c7 : Steps p.tables e below (s₁.setTop (entryFrame m #[.ref b, .int (Int32.ofNat o), .int (Int32.ofNat len)] 6)) (T6.setTop (mkF m 12 #[.val (.ref b), .val (.int (Int32.ofNat o)), .val (.int (Int32.ofNat len)), .val (.ref s.heap.size), .unset, .unset] [.int (Int32.ofNat len)])) := g6
  have c8 : Steps p.tables e below (s₁.setTop (entryFrame m #[.ref b, .int (Int32.ofNat o), .int (Int32.ofNat len)] 6)) (T6.setTop (mkF m 58 #[.val (.ref b), .val (.int (Int32.ofNat o)), .val (.int (Int32.ofNat len)), .val (.ref s.heap.size), .val (.int (Int32.ofNat len)), .unset] [.ref s.heap.size])) := c7.trans (by
    refine XS.istore X6.here hexec rfl (hb hbytes d12) rfl rfl ?_
    refine XS.iload X6.here hexec rfl (hb hbytes d14) rfl ?_
    refine XS.iloadN X6.here hexec rfl (hb hbytes d16) rfl ?_
    refine XS.icmpYes X6.here hexec rfl (pc0 := 17) rfl (hb hbytes d17) rfl (ii_eq_t rfl) (by decide) rfl ?_
    refine XS.aloadN X6.here hexec rfl (hb hbytes d57) rfl rfl ?_
    exact Steps.refl _)
  have X8 := X6.wide (L' := []) (cells' := 1) (slots' := len) (fun x hx hlt => by
    simp only [List.nil_append, copyLocs, List.mem_map, List.mem_range] at hx
    obtain ⟨i, -, rfl⟩ := hx
    exact absurd hlt (Nat.lt_irrefl _)) (Nat.le_refl _) (by omega)
  exact ⟨T6, some (.ref s.heap.size), _, _, _, X8, rfl, rfl, rfl, (fun h => by cases h), ⟨⟨rfl, B6, ba3.like (X3.warmed.alike.symm.trans X6.warmed.alike) p6.1 f6.1 f6.2.1 f6.2.2.1, f6.2.1.trans bv3, by rw [X6.warmed.alike.findClass, f6.1]; exact bf3, by rw [f6.2.2.1, bs3]; simp, fun j hj => by rw [f6.2.2.2 j, if_pos (by omega)]; rfl, kp3.put p6 (Nat.le_refl _)⟩, by rw [p6.2.2, bh3, hh0]; simp⟩, fun fs hl => c8.trans (X8.areturnOut hexec rfl hret rfl (hb hbytes d58) hl)⟩
end Cmp3
namespace CodL
def yN : MethodName := ⟨"java/lang/StringUTF16", "coderFromArrayLen", "([BI)B"⟩
abbrev yB : ByteArray := jdk_52_method_15_code
theorem d0 : decode yB 0 = .ok (.iload_n 1, 1) := by decide +kernel
theorem d1 : decode yB 1 = .ok (.aload_n 0, 1) := by decide +kernel
theorem d2 : decode yB 2 = .ok (.arraylength, 1) := by decide +kernel
theorem d3 : decode yB 3 = .ok (.isub, 1) := by decide +kernel
theorem d4 : decode yB 4 = .ok (.bipush 31, 2) := by decide +kernel
theorem d6 : decode yB 6 = .ok (.iushr, 1) := by decide +kernel
theorem d7 : decode yB 7 = .ok (.i2b, 1) := by decide +kernel
theorem d8 : decode yB 8 = .ok (.ireturn, 1) := by decide +kernel
def site : List Cond := []
def tab : Cond := tabOf yN yB 2 (some .byte) site
def P (d : Addr) (B : Cell) (args : Array Value) (s : State) : Prop := args = #[.ref d, .int (Int32.ofNat B.slots.size)] ∧ Arr .byte d B s
def E (r : Option Value) (s u : State) : Prop := XT.PureE (some (.int 0)) r s u
/-- an array as long as the number of chars: LATIN1 -/
theorem law (l : Launch) (d : Addr) (B : Cell) : Law l yN 2 2 0 0 yB 2 (some .byte) site (P d B) E [] 0 0 := by
  refine Law.of_walk (plainFor_of_name (by decide +kernel)) (by decide +kernel) (by decide +kernel) (by decide) (fun _ _ h => by rw [h.1]; rfl) (fun _ U U' hal hh h => ⟨h.1, h.2.mv hal hh⟩) (fun r U U' V V' h1 hal h2 h => XT.PureE.mv r U U' V V' h1 hal h2 h) ?_
  intro p e s m args below meth c s₁ X0 hexec hbytes hml hret hlk hnm hown hh0 W hP
  obtain ⟨rfl, hB⟩ := hP
  have hB0 := hB.mv X0.warmed.alike hh0
  have c1 : Steps p.tables e below (s₁.setTop (entryFrame m #[.ref d, .int (Int32.ofNat B.slots.size)] 2)) (s₁.setTop (mkF m 0 #[.val (.ref d), .val (.int (Int32.ofNat B.slots.size))] [])) := entry rfl
  have c2 : Steps p.tables e below (s₁.setTop (entryFrame m #[.ref d, .int (Int32.ofNat B.slots.size)] 2)) (s₁.setTop (mkF m 2 #[.val (.ref d), .val (.int (Int32.ofNat B.slots.size))] [.ref d, .int (Int32.ofNat B.slots.size)])) := c1.trans (by
    refine XS.iloadN X0.here hexec rfl (hb hbytes d0) rfl ?_
    refine XS.aloadN X0.here hexec rfl (hb hbytes d1) rfl rfl ?_
    exact Steps.refl _)
  have c3 : Steps p.tables e below (s₁.setTop (entryFrame m #[.ref d, .int (Int32.ofNat B.slots.size)] 2)) (s₁.setTop (mkF m 8 #[.val (.ref d), .val (.int (Int32.ofNat B.slots.size))] [.int (lo8 (ushr (Int32.ofNat B.slots.size - Int32.ofNat B.slots.size) 31))])) := c2.trans (by
    refine X0.alen hexec hB0 rfl rfl (hb hbytes d2) ?_
    refine XS.isub X0.here hexec rfl (hb hbytes d3) rfl ?_
    refine bipushV X0.here hexec rfl 31 (hb hbytes d4) (by decide) ?_
    refine iushr X0.here hexec rfl (hb hbytes d6) rfl ?_
    refine i2b X0.here hexec rfl (hb hbytes d7) rfl ?_
    exact Steps.refl _)
  have e0 : lo8 (ushr (Int32.ofNat B.slots.size - Int32.ofNat B.slots.size) 31) = 0 := by rw [Int32.sub_self]; decide
  rw [e0] at c3
  exact ⟨s₁, some (.int 0), _, _, _, X0, rfl, rfl, rfl, (fun h => by cases h), ⟨rfl, hh0⟩, fun fs hl => c3.trans (X0.ireturnOut hexec hret rfl (Or.inr (Or.inr (Or.inl rfl))) (hb hbytes d8) hl)⟩
end CodL
/-- the String at a is Latin-1 over a new byte[] (the heap's one new cell): the low bytes of the len chars of A from o on; every cell but a is kept -/
def Got (a : Addr) (D : Cell) (fV fC : Field) (A : Cell) (o len : Nat) (r : Option Value) (s u : State) : Prop := r = none ∧ ∃ D' V : Cell, Blank "java/lang/String" a D' u ∧ Same D D' [fV.slot, fC.slot] ∧ D'.slots[fV.slot]? = some (.ref s.heap.size) ∧ D'.slots[fC.slot]? = some (.int 0) ∧ Arr .byte s.heap.size V u ∧ V.vm = .none ∧ u.vm.findClass "[B" = some V.cls ∧ V.slots.size = len ∧ (∀ j, j < len → V.slots[j]? = some (.int (lo8 (cv A (o + j))))) ∧ (∀ (y : Addr) (c : Cell), y ≠ a → s.heap[y]? = some c → u.heap[y]? = some c) ∧ u.heap.size = s.heap.size + 1
theorem Got.mv {a : Addr} {D A : Cell} {fV fC : Field} {o len : Nat} : ∀ r (U U' V V' : State), U'.heap = U.heap → V.vm.Alike V'.vm → V'.heap = V.heap → Got a D fV fC A o len r U V → Got a D fV fC A o len r U' V' :=
  fun r U U' V V' h1 hal h2 ⟨e0, D', X, a1, a2, a3, a4, a5, a6, a7, a8, a9, a10, a11⟩ => ⟨e0, D', X, a1.mv hal h2, a2, by rw [h1]; exact a3, a4, by rw [h1]; exact a5.mv hal h2, a6, by rw [hal.findClass]; exact a7, a8, a9, by rw [h1, h2]; exact a10, by rw [h1, h2]; exact a11⟩
namespace New4
def yN : MethodName := ⟨"java/lang/String", "<init>", "([CIILjava/lang/Void;)V"⟩
abbrev yB : ByteArray := jdk_42_method_149_code
theorem d0 : decode yB 0 = .ok (.aload_n 0, 1) := by decide +kernel
theorem d1 : decode yB 1 = .ok (.invokespecial 1, 3) := by decide +kernel
theorem d4 : decode yB 4 = .ok (.iload_n 3, 1) := by decide +kernel
theorem d5 : decode yB 5 = .ok (.ifCond (.ne) 22, 3) := by decide +kernel
theorem d27 : decode yB 27 = .ok (.getstatic 38, 3) := by decide +kernel
theorem d30 : decode yB 30 = .ok (.ifCond (.eq) 28, 3) := by decide +kernel
theorem d33 : decode yB 33 = .ok (.aload_n 1, 1) := by decide +kernel
theorem d34 : decode yB 34 = .ok (.iload_n 2, 1) := by decide +kernel
theorem d35 : decode yB 35 = .ok (.iload_n 3, 1) := by decide +kernel
theorem d36 : decode yB 36 = .ok (.invokestatic 177, 3) := by decide +kernel
theorem d39 : decode yB 39 = .ok (.astore 5, 2) := by decide +kernel
theorem d41 : decode yB 41 = .ok (.aload_n 0, 1) := by decide +kernel
theorem d42 : decode yB 42 = .ok (.aload 5, 2) := by decide +kernel
theorem d44 : decode yB 44 = .ok (.iload_n 3, 1) := by decide +kernel
theorem d45 : decode yB 45 = .ok (.invokestatic 47, 3) := by decide +kernel
theorem d48 : decode yB 48 = .ok (.putfield 15, 3) := by decide +kernel
theorem d51 : decode yB 51 = .ok (.aload_n 0, 1) := by decide +kernel
theorem d52 : decode yB 52 = .ok (.aload 5, 2) := by decide +kernel
theorem d54 : decode yB 54 = .ok (.putfield 9, 3) := by decide +kernel
theorem d57 : decode yB 57 = .ok (.return_, 1) := by decide +kernel
def site : List Cond := [.fieldLink "java/lang/String" 38 "java/lang/String" "COMPACT_STRINGS" "Z", Cmp3.tab, CodL.tab, .laysFinal "java/lang/String" "java/lang/String" "value" "[B", .fieldLink "java/lang/String" 9 "java/lang/String" "value" "[B", .laysFinal "java/lang/String" "java/lang/String" "coder" "B", .fieldLink "java/lang/String" 15 "java/lang/String" "coder" "B"] ++ objW "java/lang/String" 1 ++ staticW "java/lang/String" 177 Cmp3.yN ++ staticW "java/lang/String" 47 CodL.yN
def tab : Cond := tabOf yN yB 6 none site
def P (a : Addr) (D : Cell) (fV fC : Field) (b : Addr) (A : Cell) (z : Int32) (o len : Nat) (args : Array Value) (s : State) : Prop := args = #[.ref a, .ref b, .int (Int32.ofNat o), .int (Int32.ofNat len), .null] ∧ Blank "java/lang/String" a D s ∧ Found "java/lang/String" "value" "[B" fV s ∧ Found "java/lang/String" "coder" "B" fC s ∧ Ch b A s ∧ StaticIs s "java/lang/String" "COMPACT_STRINGS" "Z" (.int z) ∧ ¬ z = 0 ∧ 0 < len ∧ o + len ≤ A.slots.size ∧ len ≤ 536870912 ∧ ∀ i, i < len → ¬ 255 < cv A (o + i)
def E (a : Addr) (D : Cell) (fV fC : Field) (A : Cell) (o len : Nat) (r : Option Value) (s u : State) : Prop := Got a D fV fC A o len r s u
/-- len > 0, no char of the range above 255: a Latin-1 String of their low bytes -/
theorem law (l : Launch) (a : Addr) (D : Cell) (fV fC : Field) (b : Addr) (A : Cell) (z : Int32) (o len : Nat) : Law l yN 5 4 2 35 yB 6 none site (P a D fV fC b A z o len) (E a D fV fC A o len) [⟨a, fC.slot⟩, ⟨a, fV.slot⟩] 1 len := by
  refine Law.of_walk (plainFor_of_name (by decide +kernel)) (by decide +kernel) (by decide +kernel) (by decide) (fun _ _ h => by rw [h.1]; rfl) (fun _ U U' hal hh h => ⟨h.1, h.2.1.mv hal hh, h.2.2.1.al hal, h.2.2.2.1.al hal, h.2.2.2.2.1.mv hal hh, h.2.2.2.2.2.1.there hal hh, h.2.2.2.2.2.2⟩) (fun r U U' V V' h1 hal h2 h => Got.mv r U U' V V' h1 hal h2 h) ?_
  intro p e s m args below meth c s₁ X0 hexec hbytes hml hret hlk hnm hown hh0 W hP
  obtain ⟨rfl, hB, f1, f2, hA, s1, hz, l0, l1, l2, hp⟩ := hP
  have a31 := hA.1.2.2.2
  have c1 : Steps p.tables e below (s₁.setTop (entryFrame m #[.ref a, .ref b, .int (Int32.ofNat o), .int (Int32.ofNat len), .null] 6)) (s₁.setTop (mkF m 0 #[.val (.ref a), .val (.ref b), .val (.int (Int32.ofNat o)), .val (.int (Int32.ofNat len)), .val .null, .unset] [])) := entry rfl
  have c2 : Steps p.tables e below (s₁.setTop (entryFrame m #[.ref a, .ref b, .int (Int32.ofNat o), .int (Int32.ofNat len), .null] 6)) (s₁.setTop (mkF m 1 #[.val (.ref a), .val (.ref b), .val (.int (Int32.ofNat o)), .val (.int (Int32.ofNat len)), .val .null, .unset] [.ref a])) := c1.trans (by
    refine XS.aloadN X0.here hexec rfl (hb hbytes d0) rfl rfl ?_
    exact Steps.refl _)
  obtain ⟨T3, X3, q3, st3⟩ := X0.oinit hexec hown (wks W (objW "java/lang/String" 1)) (g := (mkF m 1 #[.val (.ref a), .val (.ref b), .val (.int (Int32.ofNat o)), .val (.int (Int32.ofNat len)), .val .null, .unset] [.ref a])) rfl (by rw [hml]; rfl) (rest := []) rfl (hb hbytes d1) (W := 0) (by show 2 * 0 + 0 ≤ _; decide) (Nat.le_of_ble_eq_true rfl) (Nat.le_of_ble_eq_true rfl)
  have hh3 := q3.trans hh0
  have c4 : Steps p.tables e below (s₁.setTop (entryFrame m #[.ref a, .ref b, .int (Int32.ofNat o), .int (Int32.ofNat len), .null] 6)) (T3.setTop (mkF m 27 #[.val (.ref a), .val (.ref b), .val (.int (Int32.ofNat o)), .val (.int (Int32.ofNat len)), .val .null, .unset] [])) := (c2.trans (st3 _ (Steps.refl _))).trans (by
    refine XS.iloadN X3.here hexec rfl (hb hbytes d4) rfl ?_
    refine XS.ifYes X3.here hexec rfl (pc0 := 5) rfl (hb hbytes d5) rfl (i0_ne_t (nz32 (by omega) l0)) (by decide) rfl ?_
    exact Steps.refl _)
  obtain ⟨T5, X5, q5, st5⟩ := X3.sget hexec hown (wk W (.fieldLink "java/lang/String" 38 "java/lang/String" "COMPACT_STRINGS" "Z")) s1 (fun _ _ h => by rw [hh3]; exact h) (g := (mkF m 27 #[.val (.ref a), .val (.ref b), .val (.int (Int32.ofNat o)), .val (.int (Int32.ofNat len)), .val .null, .unset] [])) rfl (hb hbytes d27)
  have hh5 := q5.trans hh3
  have c6 : Steps p.tables e below (s₁.setTop (entryFrame m #[.ref a, .ref b, .int (Int32.ofNat o), .int (Int32.ofNat len), .null] 6)) (T5.setTop (mkF m 30 #[.val (.ref a), .val (.ref b), .val (.int (Int32.ofNat o)), .val (.int (Int32.ofNat len)), .val .null, .unset] [.int z])) := c4.trans (st5 _ (Steps.refl _))
  have c7 : Steps p.tables e below (s₁.setTop (entryFrame m #[.ref a, .ref b, .int (Int32.ofNat o), .int (Int32.ofNat len), .null] 6)) (T5.setTop (mkF m 36 #[.val (.ref a), .val (.ref b), .val (.int (Int32.ofNat o)), .val (.int (Int32.ofNat len)), .val .null, .unset] [.int (Int32.ofNat len), .int (Int32.ofNat o), .ref b])) := c6.trans (by
    refine XS.ifNo X5.here hexec rfl (hb hbytes d30) rfl (i0_eq_f hz) ?_
    refine XS.aloadN X5.here hexec rfl (hb hbytes d33) rfl rfl ?_
    refine XS.iloadN X5.here hexec rfl (hb hbytes d34) rfl ?_
    refine XS.iloadN X5.here hexec rfl (hb hbytes d35) rfl ?_
    exact Steps.refl _)
  obtain ⟨v8, T8, X8, E8, g8⟩ := X5.callS hexec (Cmp3.law l b A o len) hown (wks W (staticW "java/lang/String" 177 Cmp3.yN)) (wk W Cmp3.tab) (W := 0) (Nat.le_of_ble_eq_true rfl) (Nat.le_of_ble_eq_true rfl) (Nat.le_refl _) (by show 0 + len ≤ len; omega) (g := (mkF m 36 #[.val (.ref a), .val (.ref b), .val (.int (Int32.ofNat o)), .val (.int (Int32.ofNat len)), .val .null, .unset] [.int (Int32.ofNat len), .int (Int32.ofNat o), .ref b])) rfl (by rw [hml]; rfl) c7 (argsL := [.ref b, .int (Int32.ofNat o), .int (Int32.ofNat len)]) (rest := []) rfl rfl (by show 2 * 0 + 0 ≤ _; decide) (hb hbytes d36) (⟨rfl, hA.mv X5.warmed.alike hh5, l1, l2, hp⟩)
  obtain ⟨e8, z8⟩ := E8
  obtain ⟨rfl, N, n1, n2, n3, n4, n5, n6⟩ := NewArr.mv _ T5 s _ _ hh5.symm (Vm.Alike.refl _) rfl e8
  rw [hh5] at z8
  have hB1 := hB.keep X8.warmed.alike (n6 _ _ hB.1)
  have hne : s.heap.size ≠ a := (Nat.ne_of_lt (Array.getElem?_eq_some_iff.mp hB.1).1).symm
  have c9 : Steps p.tables e below (s₁.setTop (entryFrame m #[.ref a, .ref b, .int (Int32.ofNat o), .int (Int32.ofNat len), .null] 6)) (T8.setTop (mkF m 39 #[.val (.ref a), .val (.ref b), .val (.int (Int32.ofNat o)), .val (.int (Int32.ofNat len)), .val .null, .unset] [.ref s.heap.size])) := g8
  have c10 : Steps p.tables e below (s₁.setTop (entryFrame m #[.ref a, .ref b, .int (Int32.ofNat o), .int (Int32.ofNat len), .null] 6)) (T8.setTop (mkF m 45 #[.val (.ref a), .val (.ref b), .val (.int (Int32.ofNat o)), .val (.int (Int32.ofNat len)), .val .null, .val (.ref s.heap.size)] [.int (Int32.ofNat N.slots.size), .ref s.heap.size, .ref a])) := by
    have hc : Steps p.tables e below (s₁.setTop (entryFrame m #[.ref a, .ref b, .int (Int32.ofNat o), .int (Int32.ofNat len), .null] 6)) (T8.setTop (mkF m 45 #[.val (.ref a), .val (.ref b), .val (.int (Int32.ofNat o)), .val (.int (Int32.ofNat len)), .val .null, .val (.ref s.heap.size)] [.int (Int32.ofNat len), .ref s.heap.size, .ref a])) := c9.trans (by
      refine XS.astore X8.here hexec rfl (hb hbytes d39) rfl rfl rfl ?_
      refine XS.aloadN X8.here hexec rfl (hb hbytes d41) rfl rfl ?_
      refine XS.aload X8.here hexec rfl (hb hbytes d42) rfl rfl ?_
      refine XS.iloadN X8.here hexec rfl (hb hbytes d44) rfl ?_
      exact Steps.refl _)
    rw [n4]; exact hc
  obtain ⟨v11, T11, X11, E11, g11⟩ := X8.callS hexec (CodL.law l s.heap.size N) hown (wks W (staticW "java/lang/String" 47 CodL.yN)) (wk W CodL.tab) (W := 1) (Nat.le_of_ble_eq_true rfl) (Nat.le_of_ble_eq_true rfl) (Nat.le_refl _) (by show 0 + len + 0 ≤ len; omega) (g := (mkF m 45 #[.val (.ref a), .val (.ref b), .val (.int (Int32.ofNat o)), .val (.int (Int32.ofNat len)), .val .null, .val (.ref s.heap.size)] [.int (Int32.ofNat N.slots.size), .ref s.heap.size, .ref a])) rfl (by rw [hml]; rfl) c10 (argsL := [.ref s.heap.size, .int (Int32.ofNat N.slots.size)]) (rest := [.ref a]) rfl rfl (by show 2 * 0 + (1 + 0) ≤ _; decide) (hb hbytes d45) (⟨rfl, n1⟩)
  obtain ⟨rfl, q11⟩ := E11
  have hB11 := hB1.mv (X8.warmed.alike.symm.trans X11.warmed.alike) q11
  have c12 : Steps p.tables e below (s₁.setTop (entryFrame m #[.ref a, .ref b, .int (Int32.ofNat o), .int (Int32.ofNat len), .null] 6)) (T11.setTop (mkF m 48 #[.val (.ref a), .val (.ref b), .val (.int (Int32.ofNat o)), .val (.int (Int32.ofNat len)), .val .null, .val (.ref s.heap.size)] [.int 0, .ref a])) := g11
  obtain ⟨T13, X13, p13, bl13, sl13, st13⟩ := X11.finit hexec hown (wk W (.fieldLink "java/lang/String" 15 "java/lang/String" "coder" "B")) (Or.inr ⟨_, (wk W (.laysFinal "java/lang/String" "java/lang/String" "coder" "B"))⟩) (Or.inl ⟨rfl, hnm⟩) f2 (Or.inl rfl) hB11 (t := .byte) (by decide +kernel) rfl (g := (mkF m 48 #[.val (.ref a), .val (.ref b), .val (.int (Int32.ofNat o)), .val (.int (Int32.ofNat len)), .val .null, .val (.ref s.heap.size)] [.int 0, .ref a])) rfl (rest := []) rfl (hb hbytes d48)
  have c14 : Steps p.tables e below (s₁.setTop (entryFrame m #[.ref a, .ref b, .int (Int32.ofNat o), .int (Int32.ofNat len), .null] 6)) (T13.setTop (mkF m 54 #[.val (.ref a), .val (.ref b), .val (.int (Int32.ofNat o)), .val (.int (Int32.ofNat len)), .val .null, .val (.ref s.heap.size)] [.ref s.heap.size, .ref a])) := (c12.trans (st13 _ (Steps.refl _))).trans (by
    refine XS.aloadN X13.here hexec rfl (hb hbytes d51) rfl rfl ?_
    refine XS.aload X13.here hexec rfl (hb hbytes d52) rfl rfl ?_
    exact Steps.refl _)
  obtain ⟨T15, X15, p15, bl15, sl15, st15⟩ := X13.finit hexec hown (wk W (.fieldLink "java/lang/String" 9 "java/lang/String" "value" "[B")) (Or.inr ⟨_, (wk W (.laysFinal "java/lang/String" "java/lang/String" "value" "[B"))⟩) (Or.inl ⟨rfl, hnm⟩) f1 (Or.inl rfl) bl13 (t := (.array .byte)) (by decide +kernel) rfl (g := (mkF m 54 #[.val (.ref a), .val (.ref b), .val (.int (Int32.ofNat o)), .val (.int (Int32.ofNat len)), .val .null, .val (.ref s.heap.size)] [.ref s.heap.size, .ref a])) rfl (rest := []) rfl (hb hbytes d54)
  have c16 : Steps p.tables e below (s₁.setTop (entryFrame m #[.ref a, .ref b, .int (Int32.ofNat o), .int (Int32.ofNat len), .null] 6)) (T15.setTop (mkF m 57 #[.val (.ref a), .val (.ref b), .val (.int (Int32.ofNat o)), .val (.int (Int32.ofNat len)), .val .null, .val (.ref s.heap.size)] [])) := c14.trans (st15 _ (Steps.refl _))
  have ap := apart (Or.inr ⟨_, (wk W (.laysFinal "java/lang/String" "java/lang/String" "value" "[B"))⟩) (Or.inr ⟨_, (wk W (.laysFinal "java/lang/String" "java/lang/String" "coder" "B"))⟩) f1 f2 (t₁ := .array .byte) (t₂ := .byte) (by decide +kernel) (by decide +kernel) (by decide)
  have al := X8.warmed.alike.symm.trans X15.warmed.alike
  have n7 : T11.heap[s.heap.size]? = some N := by rw [q11]; exact n1.1
  exact ⟨T15, none, _, _, _, X15, by simp, rfl, by omega, (fun _ => rfl), ⟨rfl, _, N, bl15, ((Same.refl D _).set _ (by simp)).set _ (by simp), sl15, (Cell.slots_setSlot_ne _ ap).trans sl13, n1.keep al (p15.other hne (p13.other hne n7)), n2, by rw [al.findClass]; exact n3, n4, n5, fun y c h1 h2 => p15.other h1 (p13.other h1 (by rw [q11]; exact n6 y c h2)), by rw [p15.2.2, p13.2.2, q11]; exact z8⟩, fun fs hl => c16.trans (X15.returnOut hexec hret (hb hbytes d57) hl)⟩
end New4
namespace New1
def yN : MethodName := ⟨"java/lang/String", "<init>", "([C)V"⟩
abbrev yB : ByteArray := jdk_42_method_3_code
theorem d0 : decode yB 0 = .ok (.aload_n 0, 1) := by decide +kernel
theorem d1 : decode yB 1 = .ok (.aload_n 1, 1) := by decide +kernel
theorem d2 : decode yB 2 = .ok (.iconst 0, 1) := by decide +kernel
theorem d3 : decode yB 3 = .ok (.aload_n 1, 1) := by decide +kernel
theorem d4 : decode yB 4 = .ok (.arraylength, 1) := by decide +kernel
theorem d5 : decode yB 5 = .ok (.aconst_null, 1) := by decide +kernel
theorem d6 : decode yB 6 = .ok (.invokespecial 27, 3) := by decide +kernel
theorem d9 : decode yB 9 = .ok (.return_, 1) := by decide +kernel
def site : List Cond := [New4.tab] ++ initW "java/lang/String" 27 New4.yN
def tab : Cond := tabOf yN yB 2 none site
def P (a : Addr) (D : Cell) (fV fC : Field) (b : Addr) (A : Cell) (z : Int32) (args : Array Value) (s : State) : Prop := args = #[.ref a, .ref b] ∧ Blank "java/lang/String" a D s ∧ Found "java/lang/String" "value" "[B" fV s ∧ Found "java/lang/String" "coder" "B" fC s ∧ Ch b A s ∧ StaticIs s "java/lang/String" "COMPACT_STRINGS" "Z" (.int z) ∧ ¬ z = 0 ∧ 0 < A.slots.size ∧ A.slots.size ≤ 536870912 ∧ ∀ i, i < A.slots.size → ¬ 255 < cv A i
def E (a : Addr) (D : Cell) (fV fC : Field) (A : Cell) (r : Option Value) (s u : State) : Prop := Got a D fV fC A 0 A.slots.size r s u
/-- new String(chars), not empty, no char above 255: a Latin-1 String of their low bytes -/
theorem law (l : Launch) (a : Addr) (D : Cell) (fV fC : Field) (b : Addr) (A : Cell) (z : Int32) : Law l yN 2 1 3 52 yB 2 none site (P a D fV fC b A z) (E a D fV fC A) [⟨a, fC.slot⟩, ⟨a, fV.slot⟩] 1 A.slots.size := by
  refine Law.of_walk (plainFor_of_name (by decide +kernel)) (by decide +kernel) (by decide +kernel) (by decide) (fun _ _ h => by rw [h.1]; rfl) (fun _ U U' hal hh h => ⟨h.1, h.2.1.mv hal hh, h.2.2.1.al hal, h.2.2.2.1.al hal, h.2.2.2.2.1.mv hal hh, h.2.2.2.2.2.1.there hal hh, h.2.2.2.2.2.2⟩) (fun r U U' V V' h1 hal h2 h => Got.mv r U U' V V' h1 hal h2 h) ?_
  intro p e s m args below meth c s₁ X0 hexec hbytes hml hret hlk hnm hown hh0 W hP
  obtain ⟨rfl, hB, f1, f2, hA, s1, hz, l0, l2, hp⟩ := hP
  have c1 : Steps p.tables e below (s₁.setTop (entryFrame m #[.ref a, .ref b] 2)) (s₁.setTop (mkF m 0 #[.val (.ref a), .val (.ref b)] [])) := entry rfl
  have c2 : Steps p.tables e below (s₁.setTop (entryFrame m #[.ref a, .ref b] 2)) (s₁.setTop (mkF m 6 #[.val (.ref a), .val (.ref b)] [.null, .int (Int32.ofNat A.slots.size), .int 0, .ref b, .ref a])) := c1.trans (by
    refine XS.aloadN X0.here hexec rfl (hb hbytes d0) rfl rfl ?_
    refine XS.aloadN X0.here hexec rfl (hb hbytes d1) rfl rfl ?_
    refine iconstV X0.here hexec rfl 0 (hb hbytes d2) (by decide) ?_
    refine XS.aloadN X0.here hexec rfl (hb hbytes d3) rfl rfl ?_
    refine X0.alen hexec (hA.1.mv X0.warmed.alike hh0) rfl rfl (hb hbytes d4) ?_
    refine XS.aconstNull X0.here hexec rfl (hb hbytes d5) ?_
    exact Steps.refl _)
  obtain ⟨v3, T3, X3, E3, g3⟩ := X0.callN hexec (New4.law l a D fV fC b A z 0 A.slots.size) rfl hown (wks W (initW "java/lang/String" 27 New4.yN)) (W New4.tab (by simp only [site, List.mem_cons, List.mem_append, true_or, or_true])) (W := 0) (Nat.le_of_ble_eq_true rfl) (Nat.le_of_ble_eq_true rfl) (Nat.le_refl _) (by show 0 + A.slots.size ≤ A.slots.size; omega) (g := (mkF m 6 #[.val (.ref a), .val (.ref b)] [.null, .int (Int32.ofNat A.slots.size), .int (Int32.ofNat 0), .ref b, .ref a])) rfl (by rw [hml]; rfl) c2 (argsL := [.ref b, .int (Int32.ofNat 0), .int (Int32.ofNat A.slots.size), .null]) (rest := []) rfl rfl (by show 2 * 0 + 0 ≤ _; decide) (hb hbytes d6) (⟨rfl, hB.mv X0.warmed.alike hh0, f1.al X0.warmed.alike, f2.al X0.warmed.alike, hA.mv X0.warmed.alike hh0, s1.there X0.warmed.alike hh0, hz, l0, by omega, l2, fun i hi => by rw [Nat.zero_add]; exact hp i hi⟩)
  have e0 := Got.mv _ s₁ s _ _ hh0.symm (Vm.Alike.refl _) rfl E3
  obtain rfl := e0.1
  have c4 : Steps p.tables e below (s₁.setTop (entryFrame m #[.ref a, .ref b] 2)) (T3.setTop (mkF m 9 #[.val (.ref a), .val (.ref b)] [])) := g3
  exact ⟨T3, none, _, _, _, X3, by simp, rfl, by omega, (fun _ => rfl), e0, fun fs hl => c4.trans (X3.returnOut hexec hret (hb hbytes d9) hl)⟩
theorem pays {l : Launch} {R : Room} {p : Program} {e : Env} {below : List Frame} {s : State} {sargs : Array Value} {len W : Nat} (a : Addr) (D : Cell) (fV fC : Field) (b : Addr) (A : Cell) (z : Int32) (htab : tab.before sargs s = true) (hfr : 4 ≤ R.frames) (hlo : W + 65 ≤ R.locals) :
    Back l R p e below s sargs yN len W (fun A₁ a₁ => A₁.cells + 1 ≤ R.cells ∧ A₁.slots + A.slots.size ≤ R.slots ∧ P a D fV fC b A z a₁ A₁.U) (fun A₁ _ v₁ B₁ => E a D fV fC A v₁ A₁.U B₁.U ∧ B₁.locs = A₁.locs ++ [⟨a, fC.slot⟩, ⟨a, fV.slot⟩] ∧ B₁.cells = A₁.cells + 1 ∧ B₁.slots = A₁.slots + A.slots.size) :=
  (law l a D fV fC b A z).pays htab hfr (by omega)
end New1
/-- the byte, read back as charAt reads it, is the char -/
theorem lo8_mask {x : Int32} (h0 : ¬ x < 0) (h1 : ¬ 255 < x) : lo8 x &&& 255 = x := by
  have t : ∀ k : Fin 256, lo8 (Int32.ofNat k.val) &&& 255 = Int32.ofNat k.val := by decide +kernel
  rw [Int32.lt_iff_toInt_lt] at h0 h1
  have e0 : (0 : Int32).toInt = 0 := rfl
  have e1 : (255 : Int32).toInt = 255 := rfl
  obtain ⟨k, hk⟩ : ∃ k : Nat, x.toInt = k := ⟨x.toInt.toNat, by omega⟩
  have hx : x = Int32.ofNat k := Int32.toInt_inj.mp (by rw [hk, Int32.toInt_ofNat_small (by omega)])
  rw [hx]
  exact t ⟨k, by omega⟩
end StrChars
namespace StrChars.Road
open Jvm Sem ClassFile Op Lib Jvm.Stand Jvm.Free Jvm.Free.XT
open Jvm.Lib.Cold (StaticIs)
abbrev ST : String := "java/lang/String"
/-- every table word that New1's law asks, flat -/
abbrev words : List Jvm.Cond := [.code New1.yN New1.yB 2 none, .initialized ST, .methodLink ST 27 New4.yN, .instanceMethod New4.yN,
  .code New4.yN New4.yB 6 none, .fieldLink ST 38 ST "COMPACT_STRINGS" "Z", .laysFinal ST ST "value" "[B", .fieldLink ST 9 ST "value" "[B", .laysFinal ST ST "coder" "B", .fieldLink ST 15 ST "coder" "B",
  .methodLink ST 1 Lib.objectInit, .instanceMethod Lib.objectInit, .code Lib.objectInit ⟨#[0xb1]⟩ 1 none, .methodLink ST 177 Cmp3.yN, .static Cmp3.yN, .methodLink ST 47 CodL.yN, .static CodL.yN,
  .code Cmp3.yN Cmp3.yB 6 (some (.array .byte)), .initialized U16, .arrayClass .byte, .methodLink U16 115 Cmp5.yN, .static Cmp5.yN, .code Cmp5.yN Cmp5.yB 7 (some .int), .code CodL.yN CodL.yB 2 (some .byte)]
theorem tab_of {a : Array Value} {s : State} (h : ∀ w ∈ words, w.before a s = true) : New1.tab.before a s = true := by
  have h5 : Cmp5.tab.before a s = true := unparts (wk h (.code Cmp5.yN Cmp5.yB 7 (some .int))) (wks h (.initialized Cmp5.yN.cls :: Cmp5.site))
  have hc : CodL.tab.before a s = true := unparts (wk h (.code CodL.yN CodL.yB 2 (some .byte))) (wks h (.initialized CodL.yN.cls :: CodL.site))
  have q5 : ∀ w ∈ Cmp5.tab :: words, w.before a s = true := fun w hw => (List.mem_cons.mp hw).elim (fun e => e ▸ h5) (h w)
  have h3 : Cmp3.tab.before a s = true := unparts (wk q5 (.code Cmp3.yN Cmp3.yB 6 (some (.array .byte)))) (wks q5 (.initialized Cmp3.yN.cls :: Cmp3.site))
  have q3 : ∀ w ∈ Cmp3.tab :: CodL.tab :: words, w.before a s = true := fun w hw => (List.mem_cons.mp hw).elim (fun e => e ▸ h3) fun hw => (List.mem_cons.mp hw).elim (fun e => e ▸ hc) (h w)
  have h4 : New4.tab.before a s = true := unparts (wk q3 (.code New4.yN New4.yB 6 none)) (wks q3 (.initialized New4.yN.cls :: New4.site))
  have q4 : ∀ w ∈ New4.tab :: words, w.before a s = true := fun w hw => (List.mem_cons.mp hw).elim (fun e => e ▸ h4) (h w)
  exact unparts (wk q4 (.code New1.yN New1.yB 2 none)) (wks q4 (.initialized New1.yN.cls :: New1.site))
/-- the words ride from the start Z to the walk's own state -/
theorem moved {Z s : State} {a0 args : Array Value} (hZ : Z.Warmed39 s.vm) (hw : ∀ d ∈ words, d.before a0 Z = true) : ∀ d ∈ words, d.before args s = true := fun d hd => by
  have q := hw d hd
  have t : ∀ d ∈ words, d = .arrayClass .byte ∨ (d.onTables && d.keepsFace) = true := by decide +kernel
  rcases t d hd with rfl | t
  · exact RoadKit.mvA hZ q
  · exact RoadKit.mv hZ q t
/-- WHAT COMES BACK, over the tables of the start Z: h the heap at the call, h' behind it -/
def Q (Z : State) (x : Addr) (A : Cell) (h : Heap) (v : Option Value) (h' : Heap) (L : List Loc) : Prop := v = none ∧ (∀ y ∈ L, y.base = x) ∧ RoadKit.Keep h h' [x] ∧ h'.size = h.size + 1 ∧ RoadKit.Exa Z h' x ST ∧ RoadKit.Fld Z h' x ST "value" "[B" (.ref h.size) ∧ RoadKit.Fld Z h' x ST "coder" "B" (.int 0) ∧
  (∃ V : Cell, RoadKit.Arr Z h' h.size V .byte ∧ V.vm = .none ∧ Z.vm.findClass "[B" = some V.cls ∧ V.slots.size = A.slots.size ∧ ∀ j, j < A.slots.size → V.slots[j]? = some (.int (lo8 (cv A j)))) ∧
  ∀ (O n d : String) (w : Value), RoadKit.Fld Z h x O n d w → RoadKit.slotOf Z O n d ≠ RoadKit.slotOf Z ST "value" "[B" → RoadKit.slotOf Z O n d ≠ RoadKit.slotOf Z ST "coder" "B" → RoadKit.Fld Z h' x O n d w
/-- **new String(chars) AT A CALL, IN THE ROAD'S FORM**: for specialBack behind newO: x the fresh String, b the char[] with the cell A -/
theorem back {p : Program} {l : Launch} {e : Env} {R : Room} {s : State} {args : Array Value} {below : List Frame} {len W : Nat} {Z : State} {a0 : Array Value} {h : Heap} (hZ : Z.Warmed39 s.vm) (hw : ∀ d ∈ words, d.before a0 Z = true) {kI : Nat} (wi : (Jvm.Cond.instantiable ST kI).before a0 Z = true)
    {x b : Addr} {A : Cell} {z : Int32} {v0 c0 : Value} (E : RoadKit.Exa Z h x ST) (V : RoadKit.Fld Z h x ST "value" "[B" v0) (C : RoadKit.Fld Z h x ST "coder" "B" c0) (K : RoadKit.Arr Z h b A .char) (hty : Typed .char A) (S : RoadKit.Sta Z h ST "COMPACT_STRINGS" "Z" (.int z)) (hz : ¬ z = 0)
    (l0 : 0 < A.slots.size) (l2 : A.slots.size ≤ 536870912) (hp : ∀ i, i < A.slots.size → ¬ 255 < cv A i) (hfr : 4 ≤ R.frames) (hlo : W + 65 ≤ R.locals) :
    Back l R p e below s args New1.yN len W (fun P a => a = #[.ref x, .ref b] ∧ P.U.heap = h ∧ P.cells + 1 ≤ R.cells ∧ P.slots + A.slots.size ≤ R.slots)
      (fun P _ v B => ∃ L, Q Z x A h v B.U.heap L ∧ B.locs = P.locs ++ L ∧ B.cells = P.cells + 1 ∧ B.slots = P.slots + A.slots.size) := by
  intro m meth c P g ig mk a X hg hsize hdg hW hn hp'
  obtain ⟨rfl, rfl, r1, r2⟩ := hp'
  have al : Z.vm.Alike P.U.vm := hZ.alike.trans X.warmed.alike
  obtain ⟨D, cfV, kV, iV, fV, hD, gV, stV, knV, obV, asV, slV⟩ := id V
  obtain ⟨D', cfC, kC, iC, fC, hD', gC, stC, -, -, asC, slC⟩ := id C
  cases hD.symm.trans hD'
  obtain ⟨D2, kD, e1, e2, e3, e4, e5⟩ := id E
  cases hD.symm.trans e1
  obtain ⟨c2, k2, i1, i2, i3, -⟩ := Cond.instantiable_spec wi
  cases e2.symm.trans i1
  cases e3.symm.trans i2
  obtain ⟨kU, u1, u2⟩ := al.2.2 _ _ e3
  have hB : Blank ST x D P.U := ⟨hD, ⟨knV, fun q hq => by rw [hq] at obV; cases obV⟩, by rw [al.findClass]; exact e2, kU, u1, by rw [u2]; exact i3, by rw [u2]; exact e5 i3⟩
  have F1 : Found ST "value" "[B" fV P.U := ⟨SBG.found_only al ⟨cfV, kV, iV, gV⟩, stV⟩
  have F2 : Found ST "coder" "B" fC P.U := ⟨SBG.found_only al ⟨cfC, kC, iC, gC⟩, stC⟩
  have hA : Ch b A P.U := ⟨⟨K.1, State.isArrayOf_alike al K.2.1, K.2.2, by omega⟩, hty⟩
  have hS : StaticIs P.U ST "COMPACT_STRINGS" "Z" (.int z) := by
    obtain ⟨cfS, iS, kS, fS, st, cS, t1, t2, t3, t4, t5, t6, t7⟩ := S
    exact StaticIs.there (s := { Z with heap := P.U.heap }) ⟨cfS, iS, kS, fS, st, cS, t1, t2, t3, t4, t5, (fun q => by rw [q] at t6; cases t6), t7⟩ al rfl
  obtain ⟨v, B, X', ⟨⟨hv, E', V', q1, q2, q3, q4, q5, q6, q7, q8, q9, q10, q11⟩, hl, hc, hs⟩, st⟩ := New1.pays x D fV fC b A z (tab_of (moved hZ hw)) hfr hlo m meth c P g ig mk _ X hg hsize hdg hW hn ⟨r1, r2, rfl, hB, F1, F2, hA, hS, hz, l0, l2, hp⟩
  have al' : Z.vm.Alike B.U.vm := hZ.alike.trans X'.warmed.alike
  have hsz : E'.slots.size = D.slots.size := by
    obtain ⟨-, -, -, kB, w1, w2, w3⟩ := q1
    obtain ⟨kB', y1, y2⟩ := al'.2.2 _ _ e3
    rw [q2.2.1] at w1
    cases w1.symm.trans y1
    rw [w3, e5 i3, y2]
  refine ⟨v, B, X', ⟨_, ⟨hv, ?_, ⟨by omega, fun y cy hy hn' => q10 y cy (by simpa using hn') hy, fun y cy hy => ?_⟩, q11, ⟨E', _, q1.1, by rw [q2.2.1]; exact e2, by rw [q2.2.1]; exact e3, by rw [q2.1]; exact obV, fun _ => by rw [hsz]; exact e5 i3⟩,
    ⟨E', cfV, kV, iV, fV, q1.1, gV, stV, by rw [q2.1]; exact knV, by rw [q2.1]; exact obV, by rw [q2.2.1]; exact asV, q3⟩, ⟨E', cfC, kC, iC, fC, q1.1, gC, stC, by rw [q2.1]; exact knV, by rw [q2.1]; exact obV, by rw [q2.2.1]; exact asC, q4⟩,
    ⟨V', ⟨q5.1, State.isArrayOf_alike al'.symm q5.2.1, q5.2.2.1⟩, q6, by rw [← al'.findClass]; exact q7, q8, fun j hj => by have := q9 j hj; rwa [Nat.zero_add] at this⟩, fun O n d w F n1 n2 => ?_⟩, hl, hc, hs⟩, st⟩
  · intro y hy
    simp only [List.mem_cons, List.not_mem_nil, or_false] at hy
    rcases hy with rfl | rfl <;> rfl
  · by_cases q : y = x
    · subst q
      cases hD.symm.trans hy
      exact ⟨E', q1.1, q2.2.1, q2.1, hsz⟩
    · exact ⟨cy, q10 y cy q hy, rfl, rfl, rfl⟩
  · obtain ⟨D3, cf, k, i, f, g1, g2, g3, g4, g5, g6, g7⟩ := F
    cases hD.symm.trans g1
    simp only [RoadKit.slotOf, g2, gV, gC, Option.map_some, Option.getD_some] at n1 n2
    exact ⟨E', cf, k, i, f, q1.1, g2, g3, by rw [q2.1]; exact g4, by rw [q2.1]; exact g5, by rw [q2.2.1]; exact g6, by rw [q2.2.2 f.slot (by simp [n1, n2])]; exact g7⟩
end StrChars.Road
namespace StrChars.Road
open Jvm Sem ClassFile Op Lib Jvm.Stand Jvm.Free Jvm.Free.XT
/-- WHAT COMES BACK, the byte[] as a list of values -/
def QA (Z : State) (x : Addr) (zn : Int32) (cs : List Int32) (h : Heap) (v : Option Value) (h' : Heap) (L : List Loc) : Prop := v = none ∧ (∀ y ∈ L, y.base = x) ∧ RoadKit.Keep h h' [x] ∧ h'.size = h.size + 1 ∧ RoadKit.Exa Z h' x ST ∧ RoadKit.Fld Z h' x ST "value" "[B" (.ref h.size) ∧ RoadKit.Fld Z h' x ST "coder" "B" (.int 0) ∧
  (∃ kb, Z.vm.findClass "[B" = some kb ∧ RoadKit.Arv Z h' h.size kb .byte zn (cs.map fun c => .int (lo8 c)) (.int 0)) ∧
  ∀ (O n d : String) (w : Value), RoadKit.Fld Z h x O n d w → RoadKit.slotOf Z O n d ≠ RoadKit.slotOf Z ST "value" "[B" → RoadKit.slotOf Z O n d ≠ RoadKit.slotOf Z ST "coder" "B" → RoadKit.Fld Z h' x O n d w
/-- **new String(chars) AT A CALL, THE ARRAYS AS LISTS**: the char[] at b holds cs, not empty, no char above 255 -/
theorem backArv {p : Program} {l : Launch} {e : Env} {R : Room} {s : State} {args : Array Value} {below : List Frame} {len W : Nat} {Z : State} {a0 : Array Value} {h : Heap} (hZ : Z.Warmed39 s.vm) (hw : ∀ d ∈ words, d.before a0 Z = true) {kI : Nat} (wi : (Jvm.Cond.instantiable ST kI).before a0 Z = true)
    {x b : Addr} {k : ClassId} {zn z : Int32} {cs : List Int32} {dv v0 c0 : Value} (E : RoadKit.Exa Z h x ST) (V : RoadKit.Fld Z h x ST "value" "[B" v0) (C : RoadKit.Fld Z h x ST "coder" "B" c0) (K : RoadKit.Arv Z h b k .char zn (cs.map Value.int) dv) (S : RoadKit.Sta Z h ST "COMPACT_STRINGS" "Z" (.int z)) (hz : ¬ z = 0)
    (hlen : zn.toNatClampNeg = cs.length) (h0 : 0 < cs.length) (hbig : cs.length ≤ 536870912) (hall : ∀ c ∈ cs, ¬ 255 < c) (hfr : 4 ≤ R.frames) (hlo : W + 65 ≤ R.locals) :
    Back l R p e below s args New1.yN len W (fun P a => a = #[.ref x, .ref b] ∧ P.U.heap = h ∧ P.cells + 1 ≤ R.cells ∧ P.slots + cs.length ≤ R.slots)
      (fun P _ v B => ∃ L, QA Z x zn cs h v B.U.heap L ∧ B.locs = P.locs ++ L ∧ B.cells = P.cells + 1 ∧ B.slots = P.slots + cs.length) := by
  obtain ⟨A, K1, K2, K3, K4, K5, K6⟩ := K
  have e : A.slots.size = cs.length := K3.trans hlen
  have hat : ∀ (i : Nat) (hi : i < cs.length), A.slots[i]? = some (.int cs[i]) := fun i hi => by rw [K5 i (by omega)]; simp [List.getD_eq_getElem?_getD, hi]
  have hcv : ∀ (i : Nat) (hi : i < cs.length), cv A i = cs[i] := fun i hi => by unfold cv; rw [hat i hi]
  have hty : Typed .char A := fun i v hv => by
    have hi : i < A.slots.size := (Array.getElem?_eq_some_iff.mp hv).1
    have q := K5 i hi
    rw [hv] at q
    rw [Option.some.inj q]
    exact K6 i hi
  refine Back.mono (back hZ hw wi E V C K1 hty S hz (by omega) (by omega) (fun i hi => by rw [hcv i (by omega)]; exact hall _ (List.getElem_mem _)) hfr hlo) (fun P a hp => ⟨hp.1, hp.2.1, hp.2.2.1, by rw [e]; exact hp.2.2.2⟩) (fun P a v B hp hq => ?_)
  obtain ⟨L, ⟨q1, q2, q3, q4, q5, q6, q7, ⟨V', v1, v2, v3, v4, v5⟩, q9⟩, hl, hc, hs⟩ := hq
  refine ⟨L, ⟨q1, q2, q3, q4, q5, q6, q7, ⟨V'.cls, v3, V', v1, rfl, by rw [v4, e, hlen], K4, fun i hi => ?_, fun i hi => ?_⟩, q9⟩, hl, hc, by rw [hs, e]⟩
  · have hi' : i < cs.length := by omega
    rw [v5 i (by omega), hcv i hi']; simp [List.getD_eq_getElem?_getD, hi']
  · have hi' : i < cs.length := by omega
    simp only [List.getD_eq_getElem?_getD, List.getElem?_map, List.getElem?_eq_getElem hi', Option.map_some, Option.getD_some]
    exact fits_lo8 _
end StrChars.Road
namespace StrChars.Road
open Jvm Sem ClassFile Op Lib Jvm.Stand Jvm.Free Jvm.Free.XT
/-- WHAT COMES BACK, in the writer's own shape -/
def QV (Z : State) (x : Addr) (N : Int32) (bs : List Int32) (h : Heap) (n0 : Nat) (v : Option Value) (h' : Heap) (L : List Loc) : Prop := v = none ∧ RoadKit.Fr n0 L ∧ RoadKit.Keep h h' [x] ∧ RoadKit.Exa Z h' x ST ∧ RoadKit.Fld Z h' x ST "coder" "B" (.int 0) ∧
  ∃ (t : Addr) (kb : ClassId), n0 ≤ t ∧ h.size ≤ t ∧ ¬ t = x ∧ RoadKit.Fld Z h' x ST "value" "[B" (.ref t) ∧ RoadKit.Arv Z h' t kb .byte N (bs.map Value.int) (.int 0)
/-- **new String(chars) AT A CALL, FOR THE WRITER**: a char[] of n known ints, each 0 to 255 -/
theorem backV {p : Program} {l : Launch} {e : Env} {R : Room} {s : State} {args : Array Value} {below : List Frame} {len W : Nat} {Z : State} {a0 : Array Value} {h : Heap} (hZ : Z.Warmed39 s.vm) (hw : ∀ d ∈ words, d.before a0 Z = true) {kI : Nat} (wi : (Jvm.Cond.instantiable ST kI).before a0 Z = true)
    {x b : Addr} {kC : ClassId} {cs bs : List Int32} {d v0 c0 : Value} {z N : Int32} {n n0 : Nat} (hx0 : n0 ≤ x) (hh0 : n0 ≤ h.size) (E : RoadKit.Exa Z h x ST) (V : RoadKit.Fld Z h x ST "value" "[B" v0) (C : RoadKit.Fld Z h x ST "coder" "B" c0) (K : RoadKit.Arv Z h b kC .char N (cs.map Value.int) d) (S : RoadKit.Sta Z h ST "COMPACT_STRINGS" "Z" (.int z)) (hz : ¬ z = 0)
    (hn : cs.length = n) (hN : N = Int32.ofNat n) (l0 : 0 < n) (l2 : n ≤ 4000) (hp : ∀ c ∈ cs, ¬ c < 0 ∧ ¬ (255 : Int32) < c) (hb : bs = cs.map (fun c => c.toInt8.toInt32)) (hfr : 4 ≤ R.frames) (hlo : W + 65 ≤ R.locals) :
    Back l R p e below s args (⟨"java/lang/String", "<init>", "([C)V"⟩ : MethodName) len W (fun P a => a = #[.ref x, .ref b] ∧ P.U.heap = h ∧ P.cells + 1 ≤ R.cells ∧ P.slots + n ≤ R.slots)
      (fun P _ v B => ∃ L, QV Z x N bs h n0 v B.U.heap L ∧ B.locs = P.locs ++ L ∧ B.cells = P.cells + 1 ∧ B.slots = P.slots + n) := by
  subst hn hN hb
  refine Back.mono (backArv hZ hw wi E V C K S hz (n32 (by omega)) l0 (by omega) (fun c hc => (hp c hc).2) hfr hlo) (fun P a hp => hp) (fun P a v B hp hq => ?_)
  obtain ⟨L, ⟨q1, q2, q3, q4, q5, q6, q7, ⟨kb, v1, v2⟩, q9⟩, hl, hc, hs⟩ := hq
  exact ⟨L, ⟨q1, fun y hy => by rw [q2 y hy]; exact hx0, q3, q5, q7, h.size, kb, hh0, Nat.le_refl _, Nat.ne_of_gt E.lt, q6, by rw [List.map_map]; exact v2⟩, hl, hc, hs⟩
end StrChars.Road
namespace StrChars
open Jvm Sem ClassFile Op Lib Jvm.Stand Jvm.Free.XT Jvm.Free.ALB Jvm.Free.JM Jvm.Free
open Jvm.Lib.Cold (StaticIs)
def hi8 (x : Int32) : Int32 := lo8 (x >>> ((8 : Int32) &&& 31))
/-- what StringUTF16.getChar makes of two bytes -/
def pairCh (u v : Int32) : Int32 := (((u &&& 255) <<< ((0 : Int32) &&& 31)) ||| ((v &&& 255) <<< ((8 : Int32) &&& 31))).toUInt32.toUInt16.toUInt32.toInt32
theorem shr0 (c : Int32) : c >>> ((0 : Int32) &&& 31) = c := by
  have e : ((0 : Int32) &&& 31) = 0 := by decide
  rw [e]
  apply Int32.toBitVec_inj.mp
  rw [Int32.toBitVec_shiftRight]
  have e1 : ((0 : Int32).toBitVec.smod 32) = 0#32 := by decide
  rw [e1, BitVec.sshiftRight_eq']
  exact BitVec.sshiftRight_zero
theorem lo8_and (x : Int32) : (lo8 x &&& 255).toBitVec.toNat = x.toBitVec.toNat % 256 := by
  have h : (lo8 x).toBitVec = (x.toBitVec.signExtend 8).signExtend 32 := by rw [lo8, Int8.toBitVec_toInt32, Int32.toBitVec_toInt8]
  rw [Int32.toBitVec_and, BitVec.toNat_and, h]
  have e : ((x.toBitVec.signExtend 8).signExtend 32).toNat % 256 = x.toBitVec.toNat % 256 := by
    rw [BitVec.toNat_signExtend]
    have hlt := x.toBitVec.isLt
    simp only [BitVec.toNat_setWidth, BitVec.toNat_signExtend]
    split <;> split <;> omega
  rw [← e]
  exact Nat.and_two_pow_sub_one_eq_mod _ 8
theorem pair_says {c : Int32} (h0 : ¬ c < 0) (h1 : ¬ 65535 < c) : pairCh (lo8 c) (hi8 c) = c := by
  rw [Int32.lt_iff_toInt_lt] at h0 h1
  have e0 : (0 : Int32).toInt = 0 := rfl
  have e1 : (65535 : Int32).toInt = 65535 := rfl
  have hc : c.toInt = c.toBitVec.toNat := by
    have := c.toBitVec.isLt
    have e : c.toInt = c.toBitVec.toInt := rfl
    rw [e] at h0 h1
    rw [e]
    rw [BitVec.toInt_eq_toNat_cond] at h0 h1 ⊢
    split at h0 <;> split <;> omega
  have hn : c.toBitVec.toNat < 65536 := by omega
  have a1 := lo8_and c
  have a2 : (hi8 c &&& 255).toBitVec.toNat = c.toBitVec.toNat / 256 := by
    rw [hi8, lo8_and]
    have e : ((8 : Int32) &&& 31) = 8 := by decide
    rw [e, Int32.toBitVec_shiftRight]
    have e2 : ((8 : Int32).toBitVec.smod 32) = 8#32 := by decide
    rw [e2, BitVec.sshiftRight_eq', BitVec.toNat_sshiftRight_of_msb_false (by rw [BitVec.msb_eq_false_iff_two_mul_lt]; omega)]
    show c.toBitVec.toNat >>> 8 % 256 = _
    rw [Nat.shiftRight_eq_div_pow]
    omega
  unfold pairCh
  apply Int32.toBitVec_inj.mp
  apply BitVec.eq_of_toNat_eq
  have f0 : ((0 : Int32) &&& 31) = 0 := by decide
  have f8 : ((8 : Int32) &&& 31) = 8 := by decide
  rw [f0, f8]
  have g : (((lo8 c &&& 255) <<< (0 : Int32)) ||| ((hi8 c &&& 255) <<< (8 : Int32))).toBitVec.toNat = c.toBitVec.toNat := by
    rw [Int32.toBitVec_or, Int32.toBitVec_shiftLeft, Int32.toBitVec_shiftLeft]
    have s0 : ((0 : Int32).toBitVec.smod 32) = 0#32 := by decide
    have s8 : ((8 : Int32).toBitVec.smod 32) = 8#32 := by decide
    rw [s0, s8, BitVec.toNat_or]
    simp only [BitVec.shiftLeft_eq', BitVec.toNat_shiftLeft, a1, a2]
    show (c.toBitVec.toNat % 256) <<< 0 % 2 ^ 32 ||| (c.toBitVec.toNat / 256) <<< 8 % 2 ^ 32 = _
    rw [Nat.shiftLeft_zero, Nat.mod_eq_of_lt (show c.toBitVec.toNat % 256 < 2 ^ 32 by omega), Nat.mod_eq_of_lt (show (c.toBitVec.toNat / 256) <<< 8 < 2 ^ 32 by rw [Nat.shiftLeft_eq]; omega), Nat.or_comm, ← Nat.shiftLeft_add_eq_or_of_lt (by omega), Nat.shiftLeft_eq]
    omega
  show BitVec.toNat (((((lo8 c &&& 255) <<< (0 : Int32)) ||| ((hi8 c &&& 255) <<< (8 : Int32))).toBitVec.setWidth 16).setWidth 32) = _
  rw [BitVec.toNat_setWidth, BitVec.toNat_setWidth, g]
  omega
end StrChars
namespace StrChars
open Jvm Sem ClassFile Op Lib Jvm.Stand Jvm.Free.XT Jvm.Free.ALB Jvm.Free.JM Jvm.Free
open Jvm.Lib.Cold (StaticIs)
theorem shr1 {n : Nat} (h : 2 * n < 2 ^ 31) : Int32.ofNat (2 * n) >>> ((1 : Int32) &&& 31) = Int32.ofNat n := by
  have e : ((1 : Int32) &&& 31) = 1 := by decide
  rw [e]
  apply Int32.toBitVec_inj.mp
  rw [Int32.toBitVec_shiftRight]
  have e1 : ((1 : Int32).toBitVec.smod 32) = 1#32 := by decide
  have hm : (BitVec.ofNat 32 (2 * n)).toNat = 2 * n := by rw [BitVec.toNat_ofNat, Nat.mod_eq_of_lt (by omega)]
  rw [e1, BitVec.sshiftRight_eq']
  apply BitVec.eq_of_toNat_eq
  show ((BitVec.ofNat 32 (2 * n)).sshiftRight 1).toNat = (BitVec.ofNat 32 n).toNat
  rw [BitVec.toNat_sshiftRight_of_msb_false (by rw [BitVec.msb_eq_false_iff_two_mul_lt, hm]; omega), hm, BitVec.toNat_ofNat, Nat.shiftRight_eq_div_pow]
  omega
/-- charAt's cast of a byte read back -/
def chr8 (u : Int32) : Int32 := (u &&& 255).toUInt32.toUInt16.toUInt32.toInt32
theorem chr8_lo8 {c : Int32} (h0 : ¬ c < 0) (h1 : ¬ 255 < c) : chr8 (lo8 c) = c := by
  have t : ∀ k : Fin 256, (Int32.ofNat k.val).toUInt32.toUInt16.toUInt32.toInt32 = Int32.ofNat k.val := by decide +kernel
  unfold chr8
  rw [lo8_mask h0 h1]
  rw [Int32.lt_iff_toInt_lt] at h0 h1
  have e0 : (0 : Int32).toInt = 0 := rfl
  have e1 : (255 : Int32).toInt = 255 := rfl
  obtain ⟨k, hk⟩ : ∃ k : Nat, c.toInt = k := ⟨c.toInt.toNat, by omega⟩
  have hx : c = Int32.ofNat k := Int32.toInt_inj.mp (by rw [hk, Int32.toInt_ofNat_small (by omega)])
  rw [hx]
  exact t ⟨k, by omega⟩
theorem narrow_ch {c : Int32} (h0 : ¬ c < 0) (h1 : ¬ 65535 < c) : narrow .char (.int c) = .int c := by
  have q : narrow .char (.int (pairCh (lo8 c) (hi8 c))) = .int (pairCh (lo8 c) (hi8 c)) := narrow_c _
  rwa [pair_says h0 h1] at q
/-- the array's cell V codes the n chars f 0 .. f (n - 1) by the coder cd, as the JDK does: coder 1 just where some char is above 255 -/
def Cod (cd : Int32) (n : Nat) (f : Nat → Int32) (V : Cell) : Prop := (cd = 0 ∧ V.slots.size = n ∧ ∀ j, j < n → V.slots[j]? = some (.int (lo8 (f j))) ∧ ¬ 255 < f j) ∨ (cd = 1 ∧ V.slots.size = 2 * n ∧ (∀ j, j < n → V.slots[2 * j]? = some (.int (lo8 (f j))) ∧ V.slots[2 * j + 1]? = some (.int (hi8 (f j)))) ∧ ∃ j, j < n ∧ 255 < f j)
theorem Cod.cd {cd : Int32} {n : Nat} {f : Nat → Int32} {V : Cell} (h : Cod cd n f V) : cd = 0 ∨ cd = 1 := h.imp (fun q => q.1) fun q => q.1
theorem Cod.len {cd : Int32} {n : Nat} {f : Nat → Int32} {V : Cell} (h : Cod cd n f V) (hs : V.slots.size < 2 ^ 31) : Int32.ofNat V.slots.size >>> (cd &&& 31) = Int32.ofNat n := by
  rcases h with ⟨rfl, h, -⟩ | ⟨rfl, h, -⟩
  · rw [shr0, h]
  · rw [h, shr1 (by omega)]
/-- **x is a String of the n chars f 0 .. f (n - 1)**, Latin-1 or UTF-16; its array at t has the cell V -/
def Txt (x t : Addr) (V : Cell) (cd : Int32) (n : Nat) (f : Nat → Int32) (U : State) : Prop := Exact "java/lang/String" x U ∧ Has x "java/lang/String" "value" "[B" (.ref t) U ∧ Has x "java/lang/String" "coder" "B" (.int cd) U ∧ XT.Arr .byte t V U ∧ Cod cd n f V ∧ ∀ j, j < n → ¬ f j < 0 ∧ ¬ 65535 < f j
theorem Txt.mv {x t : Addr} {V : Cell} {cd : Int32} {n : Nat} {f : Nat → Int32} {U U' : State} (h : Txt x t V cd n f U) (hal : U.vm.Alike U'.vm) (hh : U'.heap = U.heap) : Txt x t V cd n f U' := ⟨h.1.mv hal hh, h.2.1.mv hal hh, h.2.2.1.mv hal hh, h.2.2.2.1.mv hal hh, h.2.2.2.2⟩
namespace Cdr
def yN : MethodName := ⟨"java/lang/String", "coder", "()B"⟩
abbrev yB : ByteArray := jdk_42_method_152_code
theorem d0 : decode yB 0 = .ok (.getstatic 38, 3) := by decide +kernel
theorem d3 : decode yB 3 = .ok (.ifCond (.eq) 10, 3) := by decide +kernel
theorem d6 : decode yB 6 = .ok (.aload_n 0, 1) := by decide +kernel
theorem d7 : decode yB 7 = .ok (.getfield 15, 3) := by decide +kernel
theorem d10 : decode yB 10 = .ok (.goto 4, 3) := by decide +kernel
theorem d14 : decode yB 14 = .ok (.ireturn, 1) := by decide +kernel
def site : List Cond := [.fieldLink "java/lang/String" 38 "java/lang/String" "COMPACT_STRINGS" "Z", .fieldLink "java/lang/String" 15 "java/lang/String" "coder" "B"]
def tab : Cond := tabOf yN yB 1 (some .byte) site
def P (x : Addr) (cd z : Int32) (args : Array Value) (s : State) : Prop := args = #[.ref x] ∧ Has x "java/lang/String" "coder" "B" (.int cd) s ∧ (cd = 0 ∨ cd = 1) ∧ StaticIs s "java/lang/String" "COMPACT_STRINGS" "Z" (.int z) ∧ ¬ z = 0
def E (cd : Int32) (r : Option Value) (s u : State) : Prop := XT.PureE (some (.int cd)) r s u
theorem law (l : Launch) (x : Addr) (cd z : Int32) : Law l yN 1 0 0 0 yB 1 (some .byte) site (P x cd z) (E cd) [] 0 0 := by
  refine Law.of_walk (plainFor_of_name (by decide +kernel)) (by decide +kernel) (by decide +kernel) (by decide) (fun _ _ h => by rw [h.1]; rfl) (fun _ U U' hal hh h => ⟨h.1, h.2.1.mv hal hh, h.2.2.1, h.2.2.2.1.there hal hh, h.2.2.2.2⟩) (fun r U U' V V' h1 hal h2 h => XT.PureE.mv r U U' V V' h1 hal h2 h) ?_
  intro p e s m args below meth c s₁ X0 hexec hbytes hml hret hlk hnm hown hh0 W hP
  obtain ⟨rfl, hx, hc, s1, hz⟩ := hP
  have c1 : Steps p.tables e below (s₁.setTop (entryFrame m #[.ref x] 1)) (s₁.setTop (mkF m 0 #[.val (.ref x)] [])) := entry rfl
  obtain ⟨T2, X2, q2, st2⟩ := X0.sget hexec hown (wk W (.fieldLink "java/lang/String" 38 "java/lang/String" "COMPACT_STRINGS" "Z")) s1 (fun _ _ h => by rw [hh0]; exact h) (g := (mkF m 0 #[.val (.ref x)] [])) rfl (hb hbytes d0)
  have hh2 := q2.trans hh0
  have c3 : Steps p.tables e below (s₁.setTop (entryFrame m #[.ref x] 1)) (T2.setTop (mkF m 7 #[.val (.ref x)] [.ref x])) := (c1.trans (st2 _ (Steps.refl _))).trans (by
    refine XS.ifNo X2.here hexec rfl (hb hbytes d3) rfl (i0_eq_f hz) ?_
    refine XS.aloadN X2.here hexec rfl (hb hbytes d6) rfl rfl ?_
    exact Steps.refl _)
  obtain ⟨T4, X4, q4, st4⟩ := X2.hget hexec hown (wk W (.fieldLink "java/lang/String" 15 "java/lang/String" "coder" "B")) (hx.mv X2.warmed.alike hh2) (g := (mkF m 7 #[.val (.ref x)] [.ref x])) rfl (rest := []) rfl (hb hbytes d7)
  have c5 : Steps p.tables e below (s₁.setTop (entryFrame m #[.ref x] 1)) (T4.setTop (mkF m 14 #[.val (.ref x)] [.int cd])) := (c3.trans (st4 _ (Steps.refl _))).trans (by
    refine XS.goto X4.here hexec rfl (pc0 := 10) rfl (hb hbytes d10) (by decide) rfl ?_
    exact Steps.refl _)
  exact ⟨T4, some (.int cd), _, _, _, X4, rfl, rfl, rfl, (fun h => by cases h), ⟨rfl, q4.trans hh2⟩, fun fs hl => c5.trans (X4.ireturnOut hexec hret (by rcases hc with rfl | rfl <;> rfl) (Or.inr (Or.inr (Or.inl rfl))) (hb hbytes d14) hl)⟩
end Cdr
namespace Len
def yN : MethodName := ⟨"java/lang/String", "length", "()I"⟩
abbrev yB : ByteArray := jdk_42_method_54_code
theorem d0 : decode yB 0 = .ok (.aload_n 0, 1) := by decide +kernel
theorem d1 : decode yB 1 = .ok (.getfield 9, 3) := by decide +kernel
theorem d4 : decode yB 4 = .ok (.arraylength, 1) := by decide +kernel
theorem d5 : decode yB 5 = .ok (.aload_n 0, 1) := by decide +kernel
theorem d6 : decode yB 6 = .ok (.invokevirtual 335, 3) := by decide +kernel
theorem d9 : decode yB 9 = .ok (.ishr, 1) := by decide +kernel
theorem d10 : decode yB 10 = .ok (.ireturn, 1) := by decide +kernel
def site : List Cond := [.fieldLink "java/lang/String" 9 "java/lang/String" "value" "[B", Cdr.tab] ++ virtW "java/lang/String" 335 "java/lang/String" Cdr.yN Cdr.yN
def tab : Cond := tabOf yN yB 1 (some .int) site
def P (x t : Addr) (V : Cell) (cd : Int32) (n : Nat) (f : Nat → Int32) (z : Int32) (args : Array Value) (s : State) : Prop := args = #[.ref x] ∧ Txt x t V cd n f s ∧ StaticIs s "java/lang/String" "COMPACT_STRINGS" "Z" (.int z) ∧ ¬ z = 0
def E (n : Nat) (r : Option Value) (s u : State) : Prop := XT.PureE (some (.int (Int32.ofNat n))) r s u
/-- length() of a String of n chars, in either coding -/
theorem law (l : Launch) (x t : Addr) (V : Cell) (cd : Int32) (n : Nat) (f : Nat → Int32) (z : Int32) : Law l yN 1 0 1 13 yB 1 (some .int) site (P x t V cd n f z) (E n) [] 0 0 := by
  refine Law.of_walk (plainFor_of_name (by decide +kernel)) (by decide +kernel) (by decide +kernel) (by decide) (fun _ _ h => by rw [h.1]; rfl) (fun _ U U' hal hh h => ⟨h.1, h.2.1.mv hal hh, h.2.2.1.there hal hh, h.2.2.2⟩) (fun r U U' V V' h1 hal h2 h => XT.PureE.mv r U U' V V' h1 hal h2 h) ?_
  intro p e s m args below meth c s₁ X0 hexec hbytes hml hret hlk hnm hown hh0 W hP
  obtain ⟨rfl, hx, s1, hz⟩ := hP
  have v31 := hx.2.2.2.1.2.2.2
  have c1 : Steps p.tables e below (s₁.setTop (entryFrame m #[.ref x] 1)) (s₁.setTop (mkF m 1 #[.val (.ref x)] [.ref x])) := Steps.trans (entry rfl) (by
    show Steps p.tables e below (s₁.setTop (mkF m 0 #[.val (.ref x)] [])) _
    refine XS.aloadN X0.here hexec rfl (hb hbytes d0) rfl rfl ?_
    exact Steps.refl _)
  obtain ⟨T2, X2, q2, st2⟩ := X0.hget hexec hown (wk W (.fieldLink "java/lang/String" 9 "java/lang/String" "value" "[B")) (hx.mv X0.warmed.alike hh0).2.1 (g := (mkF m 1 #[.val (.ref x)] [.ref x])) rfl (rest := []) rfl (hb hbytes d1)
  have hh2 := q2.trans hh0
  have hx2 := hx.mv X2.warmed.alike hh2
  have c3 : Steps p.tables e below (s₁.setTop (entryFrame m #[.ref x] 1)) (T2.setTop (mkF m 6 #[.val (.ref x)] [.ref x, .int (Int32.ofNat V.slots.size)])) := (c1.trans (st2 _ (Steps.refl _))).trans (by
    refine X2.alen hexec hx2.2.2.2.1 rfl rfl (hb hbytes d4) ?_
    refine XS.aloadN X2.here hexec rfl (hb hbytes d5) rfl rfl ?_
    exact Steps.refl _)
  obtain ⟨v4, T4, X4, E4, g4⟩ := X2.callV hexec (Cdr.law l x cd z) hown (wks W (virtW "java/lang/String" 335 "java/lang/String" Cdr.yN Cdr.yN)) rfl (by decide) (wk W Cdr.tab) (W := 1) (Nat.le_of_ble_eq_true rfl) (Nat.le_of_ble_eq_true rfl) (Nat.le_refl _) (Nat.le_refl _) (hx2.1.fc X2.warmed.alike) hx2.1.is (g := (mkF m 6 #[.val (.ref x)] [.ref x, .int (Int32.ofNat V.slots.size)])) rfl (by rw [hml]; rfl) c3 (argsL := []) (rest := [.int (Int32.ofNat V.slots.size)]) rfl rfl (by show 2 * 0 + (1 + 0) ≤ _; decide) (hb hbytes d6) (⟨rfl, hx2.2.2.1, hx.2.2.2.2.1.cd, s1.there X2.warmed.alike hh2, hz⟩)
  obtain ⟨rfl, q4⟩ := E4
  have c5 : Steps p.tables e below (s₁.setTop (entryFrame m #[.ref x] 1)) (T4.setTop (mkF m 10 #[.val (.ref x)] [.int (Int32.ofNat V.slots.size >>> (cd &&& 31))])) := Steps.trans g4 (by
    refine ishr X4.here hexec rfl (hb hbytes d9) rfl ?_
    exact Steps.refl _)
  rw [hx.2.2.2.2.1.len v31] at c5
  exact ⟨T4, some (.int (Int32.ofNat n)), _, _, _, X4, rfl, rfl, rfl, (fun h => by cases h), ⟨rfl, q4.trans hh2⟩, fun fs hl => c5.trans (X4.ireturnOut hexec hret rfl (Or.inl rfl) (hb hbytes d10) hl)⟩
theorem pays {l : Launch} {R : Room} {p : Program} {e : Env} {below : List Frame} {s : State} {sargs : Array Value} {len W : Nat} (x t : Addr) (V : Cell) (cd : Int32) (n : Nat) (f : Nat → Int32) (z : Int32) (htab : tab.before sargs s = true) (hfr : 2 ≤ R.frames) (hlo : W + 25 ≤ R.locals) :
    Back l R p e below s sargs yN len W (fun A₁ a₁ => A₁.cells + 0 ≤ R.cells ∧ A₁.slots + 0 ≤ R.slots ∧ P x t V cd n f z a₁ A₁.U) (fun A₁ _ v₁ B₁ => E n v₁ A₁.U B₁.U ∧ B₁.locs = A₁.locs ++ [] ∧ B₁.cells = A₁.cells + 0 ∧ B₁.slots = A₁.slots + 0) :=
  (law l x t V cd n f z).pays htab hfr (by omega)
end Len
namespace IsL
def yN : MethodName := ⟨"java/lang/String", "isLatin1", "()Z"⟩
abbrev yB : ByteArray := jdk_42_method_154_code
theorem d0 : decode yB 0 = .ok (.getstatic 38, 3) := by decide +kernel
theorem d3 : decode yB 3 = .ok (.ifCond (.eq) 14, 3) := by decide +kernel
theorem d6 : decode yB 6 = .ok (.aload_n 0, 1) := by decide +kernel
theorem d7 : decode yB 7 = .ok (.getfield 15, 3) := by decide +kernel
theorem d10 : decode yB 10 = .ok (.ifCond (.ne) 7, 3) := by decide +kernel
theorem d13 : decode yB 13 = .ok (.iconst 1, 1) := by decide +kernel
theorem d14 : decode yB 14 = .ok (.goto 4, 3) := by decide +kernel
theorem d17 : decode yB 17 = .ok (.iconst 0, 1) := by decide +kernel
theorem d18 : decode yB 18 = .ok (.ireturn, 1) := by decide +kernel
def site : List Cond := [.fieldLink "java/lang/String" 38 "java/lang/String" "COMPACT_STRINGS" "Z", .fieldLink "java/lang/String" 15 "java/lang/String" "coder" "B"]
def tab : Cond := tabOf yN yB 1 (some .boolean) site
def P (x : Addr) (cd z : Int32) (args : Array Value) (s : State) : Prop := args = #[.ref x] ∧ Has x "java/lang/String" "coder" "B" (.int cd) s ∧ (cd = 0 ∨ cd = 1) ∧ StaticIs s "java/lang/String" "COMPACT_STRINGS" "Z" (.int z) ∧ ¬ z = 0
def E (cd : Int32) (r : Option Value) (s u : State) : Prop := XT.PureE (some (.int (1 - cd))) r s u
theorem law (l : Launch) (x : Addr) (cd z : Int32) : Law l yN 1 0 0 0 yB 1 (some .boolean) site (P x cd z) (E cd) [] 0 0 := by
  refine Law.of_walk (plainFor_of_name (by decide +kernel)) (by decide +kernel) (by decide +kernel) (by decide) (fun _ _ h => by rw [h.1]; rfl) (fun _ U U' hal hh h => ⟨h.1, h.2.1.mv hal hh, h.2.2.1, h.2.2.2.1.there hal hh, h.2.2.2.2⟩) (fun r U U' V V' h1 hal h2 h => XT.PureE.mv r U U' V V' h1 hal h2 h) ?_
  intro p e s m args below meth c s₁ X0 hexec hbytes hml hret hlk hnm hown hh0 W hP
  obtain ⟨rfl, hx, hc, s1, hz⟩ := hP
  have c1 : Steps p.tables e below (s₁.setTop (entryFrame m #[.ref x] 1)) (s₁.setTop (mkF m 0 #[.val (.ref x)] [])) := entry rfl
  obtain ⟨T2, X2, q2, st2⟩ := X0.sget hexec hown (wk W (.fieldLink "java/lang/String" 38 "java/lang/String" "COMPACT_STRINGS" "Z")) s1 (fun _ _ h => by rw [hh0]; exact h) (g := (mkF m 0 #[.val (.ref x)] [])) rfl (hb hbytes d0)
  have hh2 := q2.trans hh0
  have c3 : Steps p.tables e below (s₁.setTop (entryFrame m #[.ref x] 1)) (T2.setTop (mkF m 7 #[.val (.ref x)] [.ref x])) := (c1.trans (st2 _ (Steps.refl _))).trans (by
    refine XS.ifNo X2.here hexec rfl (hb hbytes d3) rfl (i0_eq_f hz) ?_
    refine XS.aloadN X2.here hexec rfl (hb hbytes d6) rfl rfl ?_
    exact Steps.refl _)
  obtain ⟨T4, X4, q4, st4⟩ := X2.hget hexec hown (wk W (.fieldLink "java/lang/String" 15 "java/lang/String" "coder" "B")) (hx.mv X2.warmed.alike hh2) (g := (mkF m 7 #[.val (.ref x)] [.ref x])) rfl (rest := []) rfl (hb hbytes d7)
  have c5 : Steps p.tables e below (s₁.setTop (entryFrame m #[.ref x] 1)) (T4.setTop (mkF m 10 #[.val (.ref x)] [.int cd])) := c3.trans (st4 _ (Steps.refl _))
  have c6 : Steps p.tables e below (s₁.setTop (entryFrame m #[.ref x] 1)) (T4.setTop (mkF m 18 #[.val (.ref x)] [.int (1 - cd)])) := by
    rcases hc with rfl | rfl
    · exact c5.trans (by
        refine XS.ifNo X4.here hexec rfl (hb hbytes d10) rfl (i0_ne_f rfl) ?_
        refine iconstV X4.here hexec rfl 1 (hb hbytes d13) (by decide) ?_
        refine XS.goto X4.here hexec rfl (pc0 := 14) rfl (hb hbytes d14) (by decide) rfl ?_
        exact Steps.refl _)
    · exact c5.trans (by
        refine XS.ifYes X4.here hexec rfl (pc0 := 10) rfl (hb hbytes d10) rfl (i0_ne_t (by decide)) (by decide) rfl ?_
        refine iconstV X4.here hexec rfl 0 (hb hbytes d17) (by decide) ?_
        exact Steps.refl _)
  exact ⟨T4, some (.int (1 - cd)), _, _, _, X4, rfl, rfl, rfl, (fun h => by cases h), ⟨rfl, q4.trans hh2⟩, fun fs hl => c6.trans (X4.ireturnOut hexec hret (by rcases hc with rfl | rfl <;> rfl) (Or.inr (Or.inl rfl)) (hb hbytes d18) hl)⟩
end IsL
namespace LChA
def yN : MethodName := ⟨"java/lang/StringLatin1", "charAt", "([BI)C"⟩
abbrev yB : ByteArray := jdk_43_method_2_code
theorem d0 : decode yB 0 = .ok (.iload_n 1, 1) := by decide +kernel
theorem d1 : decode yB 1 = .ok (.aload_n 0, 1) := by decide +kernel
theorem d2 : decode yB 2 = .ok (.arraylength, 1) := by decide +kernel
theorem d3 : decode yB 3 = .ok (.invokestatic 9, 3) := by decide +kernel
theorem d6 : decode yB 6 = .ok (.aload_n 0, 1) := by decide +kernel
theorem d7 : decode yB 7 = .ok (.iload_n 1, 1) := by decide +kernel
theorem d8 : decode yB 8 = .ok (.baload, 1) := by decide +kernel
theorem d9 : decode yB 9 = .ok (.sipush 255, 3) := by decide +kernel
theorem d12 : decode yB 12 = .ok (.iand, 1) := by decide +kernel
theorem d13 : decode yB 13 = .ok (.i2c, 1) := by decide +kernel
theorem d14 : decode yB 14 = .ok (.ireturn, 1) := by decide +kernel
def site : List Cond := [JO.Str_checkIndex.tab] ++ staticW "java/lang/StringLatin1" 9 JO.Str_checkIndex.yN
def tab : Cond := tabOf yN yB 2 (some .char) site
def P (t : Addr) (V : Cell) (i : Nat) (u : Int32) (fm : Value) (args : Array Value) (s : State) : Prop := args = #[.ref t, .int (Int32.ofNat i)] ∧ XT.Arr .byte t V s ∧ V.slots[i]? = some (.int u) ∧ (StaticIs s "jdk/internal/util/Preconditions" "SIOOBE_FORMATTER" "Ljava/util/function/BiFunction;" fm ∧ fm.isRef = true)
def E (u : Int32) (r : Option Value) (s w : State) : Prop := XT.PureE (some (.int (chr8 u))) r s w
theorem law (l : Launch) (t : Addr) (V : Cell) (i : Nat) (u : Int32) (fm : Value) : Law l yN 2 2 2 27 yB 2 (some .char) site (P t V i u fm) (E u) [] 0 0 := by
  refine Law.of_walk (plainFor_of_name (by decide +kernel)) (by decide +kernel) (by decide +kernel) (by decide) (fun _ _ h => by rw [h.1]; rfl) (fun _ U U' hal hh h => ⟨h.1, h.2.1.mv hal hh, h.2.2.1, h.2.2.2.1.there hal hh, h.2.2.2.2⟩) (fun r U U' V V' h1 hal h2 h => XT.PureE.mv r U U' V V' h1 hal h2 h) ?_
  intro p e s m args below meth c s₁ X0 hexec hbytes hml hret hlk hnm hown hh0 W hP
  obtain ⟨rfl, hV, hu, s1, rf⟩ := hP
  have v31 := hV.2.2.2
  have hi : i < V.slots.size := (Array.getElem?_eq_some_iff.mp hu).1
  have c1 : Steps p.tables e below (s₁.setTop (entryFrame m #[.ref t, .int (Int32.ofNat i)] 2)) (s₁.setTop (mkF m 0 #[.val (.ref t), .val (.int (Int32.ofNat i))] [])) := entry rfl
  have c2 : Steps p.tables e below (s₁.setTop (entryFrame m #[.ref t, .int (Int32.ofNat i)] 2)) (s₁.setTop (mkF m 3 #[.val (.ref t), .val (.int (Int32.ofNat i))] [.int (Int32.ofNat V.slots.size), .int (Int32.ofNat i)])) := c1.trans (by
    refine XS.iloadN X0.here hexec rfl (hb hbytes d0) rfl ?_
    refine XS.aloadN X0.here hexec rfl (hb hbytes d1) rfl rfl ?_
    refine X0.alen hexec (hV.mv X0.warmed.alike hh0) rfl rfl (hb hbytes d2) ?_
    exact Steps.refl _)
  obtain ⟨v3, T3, X3, E3, g3⟩ := X0.callS hexec (JO.Str_checkIndex.law l (Int32.ofNat i) (Int32.ofNat V.slots.size) fm) hown (wks W (staticW "java/lang/StringLatin1" 9 JO.Str_checkIndex.yN)) (wk W JO.Str_checkIndex.tab) (W := 0) (Nat.le_of_ble_eq_true rfl) (Nat.le_of_ble_eq_true rfl) (Nat.le_refl _) (Nat.le_refl _) (g := (mkF m 3 #[.val (.ref t), .val (.int (Int32.ofNat i))] [.int (Int32.ofNat V.slots.size), .int (Int32.ofNat i)])) rfl (by rw [hml]; rfl) c2 (argsL := [.int (Int32.ofNat i), .int (Int32.ofNat V.slots.size)]) (rest := []) rfl rfl (by show 2 * 0 + 0 ≤ _; decide) (hb hbytes d3) (⟨rfl, rf, s1.there X0.warmed.alike hh0, Int32.ofNat_not_neg (by omega), lt32 v31 hi⟩)
  obtain ⟨rfl, q3⟩ := E3
  have hh3 := q3.trans hh0
  have c4 : Steps p.tables e below (s₁.setTop (entryFrame m #[.ref t, .int (Int32.ofNat i)] 2)) (T3.setTop (mkF m 14 #[.val (.ref t), .val (.int (Int32.ofNat i))] [.int (chr8 u)])) := Steps.trans g3 (by
    refine XS.aloadN X3.here hexec rfl (hb hbytes d6) rfl rfl ?_
    refine XS.iloadN X3.here hexec rfl (hb hbytes d7) rfl ?_
    refine X3.aget hexec (hV.mv X3.warmed.alike hh3) rfl hu rfl rfl (hb hbytes d8) ?_
    refine sipushV X3.here hexec rfl 255 (hb hbytes d9) (by decide) ?_
    refine XS.iand X3.here hexec rfl (hb hbytes d12) rfl ?_
    refine i2c X3.here hexec rfl (hb hbytes d13) rfl ?_
    exact Steps.refl _)
  exact ⟨T3, some (.int (chr8 u)), _, _, _, X3, rfl, rfl, rfl, (fun h => by cases h), ⟨rfl, hh3⟩, fun fs hl => c4.trans (X3.ireturnOut hexec hret (narrow_c _) (Or.inr (Or.inr (Or.inr (Or.inl rfl)))) (hb hbytes d14) hl)⟩
end LChA
end StrChars
namespace StrChars.Road
open Jvm Sem ClassFile Op Lib Jvm.Stand Jvm.Free Jvm.Free.XT
open Jvm.Lib.Cold (StaticIs)
theorem consq {a : Array Value} {s : State} {c : Jvm.Cond} {L : List Jvm.Cond} (h0 : c.before a s = true) (h : ∀ w ∈ L, w.before a s = true) : ∀ w ∈ c :: L, w.before a s = true := fun w hw => (List.mem_cons.mp hw).elim (fun e => e ▸ h0) (h w)
/-- the words of String.length(), either coding -/
abbrev wordsLen : List Jvm.Cond := [.code Len.yN Len.yB 1 (some .int), .initialized ST, .fieldLink ST 9 ST "value" "[B", .fieldLink ST 38 ST "COMPACT_STRINGS" "Z", .fieldLink ST 15 ST "coder" "B", .code Cdr.yN Cdr.yB 1 (some .byte), .methodLink ST 335 Cdr.yN, .declares Cdr.yN, .selects ST Cdr.yN Cdr.yN, .instanceMethod Cdr.yN]
theorem tabLen_of {a : Array Value} {s : State} (h : ∀ w ∈ wordsLen, w.before a s = true) : Len.tab.before a s = true := by
  have hc : Cdr.tab.before a s = true := unparts (wk h (.code Cdr.yN Cdr.yB 1 (some .byte))) (wks h (.initialized Cdr.yN.cls :: Cdr.site))
  have q := consq hc h
  exact unparts (wk q (.code Len.yN Len.yB 1 (some .int))) (wks q (.initialized Len.yN.cls :: Len.site))
theorem movedLen {Z s : State} {a0 args : Array Value} (hZ : Z.Warmed39 s.vm) (hw : ∀ d ∈ wordsLen, d.before a0 Z = true) : ∀ d ∈ wordsLen, d.before args s = true := fun d hd => by
  have q := hw d hd
  have t : ∀ d ∈ wordsLen, d = .arrayClass .byte ∨ (d.onTables && d.keepsFace) = true := by decide +kernel
  rcases t d hd with rfl | t
  · exact RoadKit.mvA hZ q
  · exact RoadKit.mv hZ q t
/-- the bytes of the chars cs, low before high -/
def wideBytes : List Int32 → List Value
  | [] => []
  | c :: cs => .int (lo8 c) :: .int (hi8 c) :: wideBytes cs
theorem wide_lo (d : Value) : ∀ (cs : List Int32) (j : Nat), j < cs.length → (wideBytes cs).getD (2 * j) d = .int (lo8 (cs.getD j 0))
  | [], j, h => absurd h (Nat.not_lt_zero j)
  | c :: cs, 0, _ => rfl
  | c :: cs, j + 1, h => by
    have q := wide_lo d cs j (by simpa using h)
    rw [show 2 * (j + 1) = 2 * j + 1 + 1 from by omega]
    simpa [wideBytes] using q
theorem wide_hi (d : Value) : ∀ (cs : List Int32) (j : Nat), j < cs.length → (wideBytes cs).getD (2 * j + 1) d = .int (hi8 (cs.getD j 0))
  | [], j, h => absurd h (Nat.not_lt_zero j)
  | c :: cs, 0, _ => rfl
  | c :: cs, j + 1, h => by
    have q := wide_hi d cs j (by simpa using h)
    rw [show 2 * (j + 1) + 1 = 2 * j + 1 + 1 + 1 from by omega]
    simpa [wideBytes] using q
theorem low_at (d : Value) (cs : List Int32) (j : Nat) (h : j < cs.length) : (cs.map fun c => Value.int (lo8 c)).getD j d = .int (lo8 (cs.getD j 0)) := by
  simp [List.getD_eq_getElem?_getD, h]
/-- an array of N2 bytes vs codes the chars cs by the coder cd -/
def CodA (cs : List Int32) (cd N2 : Int32) (vs : List Value) : Prop := (cd = 0 ∧ N2 = Int32.ofNat cs.length ∧ vs = (cs.map fun c => Value.int (lo8 c)) ∧ ∀ c ∈ cs, ¬ 255 < c) ∨ (cd = 1 ∧ N2 = Int32.ofNat (2 * cs.length) ∧ vs = wideBytes cs ∧ ∃ c ∈ cs, 255 < c)
theorem CodA.cod {cs : List Int32} {cd N2 : Int32} {vs : List Value} {V : Cell} (h : CodA cs cd N2 vs) (hn : 2 * cs.length < 2 ^ 31) (hs : V.slots.size = N2.toNatClampNeg) (hv : RoadKit.Has V vs (.int 0)) : Cod cd cs.length (fun j => cs.getD j 0) V := by
  rcases h with ⟨rfl, rfl, rfl, h⟩ | ⟨rfl, rfl, rfl, c, hc, hw⟩
  · rw [n32 (by omega)] at hs
    exact Or.inl ⟨rfl, hs, fun j hj => ⟨by rw [hv j (by omega), low_at _ _ _ hj], by
      have e : cs.getD j 0 = cs[j] := by simp [List.getD_eq_getElem?_getD, hj]
      show ¬ 255 < cs.getD j 0
      rw [e]; exact h _ (List.getElem_mem _)⟩⟩
  · rw [n32 (by omega)] at hs
    obtain ⟨j, hj, rfl⟩ := List.getElem_of_mem hc
    exact Or.inr ⟨rfl, hs, fun j hj => ⟨by rw [hv _ (by omega), wide_lo _ _ _ hj], by rw [hv _ (by omega), wide_hi _ _ _ hj]⟩, j, hj, by
      have e : cs.getD j 0 = cs[j] := by simp [List.getD_eq_getElem?_getD, hj]
      show 255 < cs.getD j 0
      rw [e]; exact hw⟩
/-- an object of exactly java/lang/String, its two fields found: as the laws ask it -/
theorem strObj {Z U : State} {a0 : Array Value} {kI : Nat} (wi : (Jvm.Cond.instantiable ST kI).before a0 Z = true) (al : Z.vm.Alike U.vm) {x : Addr} {v0 c0 : Value} (E : RoadKit.Exa Z U.heap x ST) (V : RoadKit.Fld Z U.heap x ST "value" "[B" v0) (C : RoadKit.Fld Z U.heap x ST "coder" "B" c0) :
    ∃ (D : Cell) (fV fC : Field), Blank ST x D U ∧ Found ST "value" "[B" fV U ∧ Found ST "coder" "B" fC U ∧ D.slots[fV.slot]? = some v0 ∧ D.slots[fC.slot]? = some c0 ∧ RoadKit.slotOf Z ST "value" "[B" = fV.slot ∧ RoadKit.slotOf Z ST "coder" "B" = fC.slot := by
  obtain ⟨D, cfV, kV, iV, fV, hD, gV, stV, knV, obV, asV, slV⟩ := V
  obtain ⟨D', cfC, kC, iC, fC, hD', gC, stC, -, -, asC, slC⟩ := C
  cases hD.symm.trans hD'
  obtain ⟨D2, kD, e1, e2, e3, e4, e5⟩ := E
  cases hD.symm.trans e1
  obtain ⟨c2, k2, i1, i2, i3, -⟩ := Cond.instantiable_spec wi
  cases e2.symm.trans i1
  cases e3.symm.trans i2
  obtain ⟨kU, u1, u2⟩ := al.2.2 _ _ e3
  exact ⟨D, fV, fC, ⟨hD, ⟨knV, fun q hq => by rw [hq] at obV; cases obV⟩, by rw [al.findClass]; exact e2, kU, u1, by rw [u2]; exact i3, by rw [u2]; exact e5 i3⟩, ⟨SBG.found_only al ⟨cfV, kV, iV, gV⟩, stV⟩, ⟨SBG.found_only al ⟨cfC, kC, iC, gC⟩, stC⟩, slV, slC, by simp [RoadKit.slotOf, gV], by simp [RoadKit.slotOf, gC]⟩
theorem sta_is {Z U : State} (al : Z.vm.Alike U.vm) {C n d : String} {v : Value} (S : RoadKit.Sta Z U.heap C n d v) : StaticIs U C n d v := by
  obtain ⟨cfS, iS, kS, fS, st, cS, t1, t2, t3, t4, t5, t6, t7⟩ := S
  exact StaticIs.there (s := { Z with heap := U.heap }) ⟨cfS, iS, kS, fS, st, cS, t1, t2, t3, t4, t5, (fun q => by rw [q] at t6; cases t6), t7⟩ al rfl
/-- **length() OF SUCH A STRING** -/
theorem lenW {p : Program} {l : Launch} {e : Env} {R : Room} {s : State} {args : Array Value} {below : List Frame} {len W : Nat} {Z : State} {a0 : Array Value} {h : Heap} (hZ : Z.Warmed39 s.vm) (hw : ∀ d ∈ wordsLen, d.before a0 Z = true) {kI : Nat} (wi : (Jvm.Cond.instantiable ST kI).before a0 Z = true)
    {x t : Addr} {kb : ClassId} {cs : List Int32} {cd N2 z : Int32} {vs : List Value} (E : RoadKit.Exa Z h x ST) (V : RoadKit.Fld Z h x ST "value" "[B" (.ref t)) (C : RoadKit.Fld Z h x ST "coder" "B" (.int cd)) (K : RoadKit.Arv Z h t kb .byte N2 vs (.int 0)) (hc : CodA cs cd N2 vs) (hb : ∀ c ∈ cs, ¬ c < 0 ∧ ¬ (65535 : Int32) < c)
    (S : RoadKit.Sta Z h ST "COMPACT_STRINGS" "Z" (.int z)) (hz : ¬ z = 0) (l2 : cs.length ≤ 4000) (hfr : 2 ≤ R.frames) (hlo : W + 25 ≤ R.locals) :
    Back l R p e below s args (⟨"java/lang/String", "length", "()I"⟩ : MethodName) len W (fun P a => a = #[.ref x] ∧ P.U.heap = h ∧ P.cells + 0 ≤ R.cells ∧ P.slots + 0 ≤ R.slots)
      (fun P _ v B => ∃ L, (v = some (.int (Int32.ofNat cs.length)) ∧ L = [] ∧ B.U.heap = h) ∧ B.locs = P.locs ++ L ∧ B.cells = P.cells + 0 ∧ B.slots = P.slots + 0) := by
  obtain ⟨A, K1, K2, K3, K4, K5, K6⟩ := K
  have hcod := hc.cod (by omega) K3 K5
  intro m meth c P g ig mk a X hg hsize hdg hW hn hp'
  obtain ⟨rfl, rfl, r1, r2⟩ := hp'
  have al : Z.vm.Alike P.U.vm := hZ.alike.trans X.warmed.alike
  obtain ⟨D, fV, fC, hB, F1, F2, g1, g2, -, -⟩ := strObj wi al E V C
  have hx : Txt x t A cd cs.length (fun j => cs.getD j 0) P.U := ⟨⟨_, hB.2.2.1, D, hB.1, rfl, by cases q : D.vm <;> first | rfl | exact absurd q (hB.2.1.2 _)⟩, Has.of hB F1 g1, Has.of hB F2 g2, ⟨K1.1, State.isArrayOf_alike al K1.2.1, K1.2.2, by rcases hcod with ⟨-, q, -⟩ | ⟨-, q, -⟩ <;> omega⟩, hcod, fun j hj => by
    have e : cs.getD j 0 = cs[j] := by simp [List.getD_eq_getElem?_getD, hj]
    show ¬ cs.getD j 0 < 0 ∧ ¬ 65535 < cs.getD j 0
    rw [e]; exact hb _ (List.getElem_mem _)⟩
  obtain ⟨v, B, X', ⟨⟨hv, hh⟩, hl, hk, hs⟩, st⟩ := Len.pays x t A cd cs.length (fun j => cs.getD j 0) z (tabLen_of (movedLen hZ hw)) hfr hlo m meth c P g ig mk _ X hg hsize hdg hW hn ⟨r1, r2, rfl, hx, sta_is al S, hz⟩
  exact ⟨v, B, X', ⟨[], ⟨hv, rfl, hh⟩, hl, hk, hs⟩, st⟩
end StrChars.Road
namespace StrChars.Road
open Jvm Sem ClassFile Op Lib Jvm.Stand Jvm.Free Jvm.Free.XT
open Jvm.Lib.Cold (StaticIs)
/-- the road's facts of a String, as the laws ask it -/
theorem txt_of {Z U : State} {a0 : Array Value} {kI : Nat} (wi : (Jvm.Cond.instantiable ST kI).before a0 Z = true) (al : Z.vm.Alike U.vm) {x t : Addr} {kb : ClassId} {cs : List Int32} {cd N2 : Int32} {vs : List Value} (E : RoadKit.Exa Z U.heap x ST) (V : RoadKit.Fld Z U.heap x ST "value" "[B" (.ref t)) (C : RoadKit.Fld Z U.heap x ST "coder" "B" (.int cd)) (K : RoadKit.Arv Z U.heap t kb .byte N2 vs (.int 0)) (hc : CodA cs cd N2 vs) (hb : ∀ c ∈ cs, ¬ c < 0 ∧ ¬ (65535 : Int32) < c) (l2 : cs.length ≤ 4000) :
    ∃ A, Txt x t A cd cs.length (fun j => cs.getD j 0) U := by
  obtain ⟨A, K1, K2, K3, K4, K5, K6⟩ := K
  have hcod := hc.cod (by omega) K3 K5
  obtain ⟨D, fV, fC, hB, F1, F2, g1, g2, -, -⟩ := strObj wi al E V C
  exact ⟨A, ⟨_, hB.2.2.1, D, hB.1, rfl, by cases q : D.vm <;> first | rfl | exact absurd q (hB.2.1.2 _)⟩, Has.of hB F1 g1, Has.of hB F2 g2, ⟨K1.1, State.isArrayOf_alike al K1.2.1, K1.2.2, by rcases hcod with ⟨-, q, -⟩ | ⟨-, q, -⟩ <;> omega⟩, hcod, fun j hj => by
    have e : cs.getD j 0 = cs[j] := by simp [List.getD_eq_getElem?_getD, hj]
    show ¬ cs.getD j 0 < 0 ∧ ¬ 65535 < cs.getD j 0
    rw [e]; exact hb _ (List.getElem_mem _)⟩
end StrChars.Road
namespace StrChars
open Jvm Sem ClassFile Op Lib Jvm.Stand Jvm.Free.XT Jvm.Free.ALB Jvm.Free.JM Jvm.Free
open Jvm.Lib.Cold (StaticIs)
namespace ChN
def yN : MethodName := ⟨"java/lang/String", "charAt", "(I)C"⟩
abbrev yB : ByteArray := jdk_42_method_56_code
theorem d0 : decode yB 0 = .ok (.aload_n 0, 1) := by decide +kernel
theorem d1 : decode yB 1 = .ok (.invokevirtual 492, 3) := by decide +kernel
theorem d4 : decode yB 4 = .ok (.ifCond (.eq) 12, 3) := by decide +kernel
theorem d7 : decode yB 7 = .ok (.aload_n 0, 1) := by decide +kernel
theorem d8 : decode yB 8 = .ok (.getfield 9, 3) := by decide +kernel
theorem d11 : decode yB 11 = .ok (.iload_n 1, 1) := by decide +kernel
theorem d12 : decode yB 12 = .ok (.invokestatic 495, 3) := by decide +kernel
theorem d15 : decode yB 15 = .ok (.ireturn, 1) := by decide +kernel
def site : List Cond := [.fieldLink "java/lang/String" 9 "java/lang/String" "value" "[B", IsL.tab, LChA.tab] ++ virtW "java/lang/String" 492 "java/lang/String" IsL.yN IsL.yN ++ staticW "java/lang/String" 495 LChA.yN
def tab : Cond := tabOf yN yB 2 (some .char) site
def P (x t : Addr) (V : Cell) (n : Nat) (f : Nat → Int32) (z : Int32) (fm : Value) (i : Nat) (args : Array Value) (s : State) : Prop := args = #[.ref x, .int (Int32.ofNat i)] ∧ Txt x t V 0 n f s ∧ i < n ∧ StaticIs s "java/lang/String" "COMPACT_STRINGS" "Z" (.int z) ∧ ¬ z = 0 ∧ StaticIs s "jdk/internal/util/Preconditions" "SIOOBE_FORMATTER" "Ljava/util/function/BiFunction;" fm ∧ fm.isRef = true
def E (f : Nat → Int32) (i : Nat) (r : Option Value) (s u : State) : Prop := XT.PureE (some (.int (f i))) r s u
/-- charAt(i) of a Latin-1 String of n chars, i < n: f i -/
theorem law (l : Launch) (x t : Addr) (V : Cell) (n : Nat) (f : Nat → Int32) (z : Int32) (fm : Value) (i : Nat) : Law l yN 2 1 3 40 yB 2 (some .char) site (P x t V n f z fm i) (E f i) [] 0 0 := by
  refine Law.of_walk (plainFor_of_name (by decide +kernel)) (by decide +kernel) (by decide +kernel) (by decide) (fun _ _ h => by rw [h.1]; rfl) (fun _ U U' hal hh h => ⟨h.1, h.2.1.mv hal hh, h.2.2.1, h.2.2.2.1.there hal hh, h.2.2.2.2.1, h.2.2.2.2.2.1.there hal hh, h.2.2.2.2.2.2⟩) (fun r U U' V V' h1 hal h2 h => XT.PureE.mv r U U' V V' h1 hal h2 h) ?_
  intro p e s m args below meth c s₁ X0 hexec hbytes hml hret hlk hnm hown hh0 W hP
  obtain ⟨rfl, hx, hi, s1, hz, s3, rf⟩ := hP
  have v31 := hx.2.2.2.1.2.2.2
  have hr := hx.2.2.2.2.2 i hi
  have hx0 := hx.mv X0.warmed.alike hh0
  have c1 : Steps p.tables e below (s₁.setTop (entryFrame m #[.ref x, .int (Int32.ofNat i)] 2)) (s₁.setTop (mkF m 1 #[.val (.ref x), .val (.int (Int32.ofNat i))] [.ref x])) := Steps.trans (entry rfl) (by
    show Steps p.tables e below (s₁.setTop (mkF m 0 #[.val (.ref x), .val (.int (Int32.ofNat i))] [])) _
    refine XS.aloadN X0.here hexec rfl (hb hbytes d0) rfl rfl ?_
    exact Steps.refl _)
  obtain ⟨v2, T2, X2, E2, g2⟩ := X0.callV hexec (IsL.law l x 0 z) hown (wks W (virtW "java/lang/String" 492 "java/lang/String" IsL.yN IsL.yN)) rfl (by decide) (wk W IsL.tab) (W := 0) (Nat.le_of_ble_eq_true rfl) (Nat.le_of_ble_eq_true rfl) (Nat.le_refl _) (Nat.le_refl _) (hx0.1.fc X0.warmed.alike) hx0.1.is (g := (mkF m 1 #[.val (.ref x), .val (.int (Int32.ofNat i))] [.ref x])) rfl (by rw [hml]; rfl) c1 (argsL := []) (rest := []) rfl rfl (by show 2 * 0 + 0 ≤ _; decide) (hb hbytes d1) (⟨rfl, hx0.2.2.1, hx.2.2.2.2.1.cd, s1.there X0.warmed.alike hh0, hz⟩)
  obtain ⟨rfl, q2⟩ := E2
  have hh2 := q2.trans hh0
  have hx2 := hx.mv X2.warmed.alike hh2
  obtain ⟨-, k1, k2⟩ | ⟨k0, -⟩ := hx.2.2.2.2.1
  · have c3 : Steps p.tables e below (s₁.setTop (entryFrame m #[.ref x, .int (Int32.ofNat i)] 2)) (T2.setTop (mkF m 8 #[.val (.ref x), .val (.int (Int32.ofNat i))] [.ref x])) := Steps.trans g2 (by
      refine XS.ifNo X2.here hexec rfl (hb hbytes d4) rfl (i0_eq_f (by decide)) ?_
      refine XS.aloadN X2.here hexec rfl (hb hbytes d7) rfl rfl ?_
      exact Steps.refl _)
    obtain ⟨T4, X4, q4, st4⟩ := X2.hget hexec hown (wk W (.fieldLink "java/lang/String" 9 "java/lang/String" "value" "[B")) hx2.2.1 (g := (mkF m 8 #[.val (.ref x), .val (.int (Int32.ofNat i))] [.ref x])) rfl (rest := []) rfl (hb hbytes d8)
    have hh4 := q4.trans hh2
    have c5 : Steps p.tables e below (s₁.setTop (entryFrame m #[.ref x, .int (Int32.ofNat i)] 2)) (T4.setTop (mkF m 12 #[.val (.ref x), .val (.int (Int32.ofNat i))] [.int (Int32.ofNat i), .ref t])) := (c3.trans (st4 _ (Steps.refl _))).trans (by
      refine XS.iloadN X4.here hexec rfl (hb hbytes d11) rfl ?_
      exact Steps.refl _)
    obtain ⟨v6, T6, X6, E6, g6⟩ := X4.callS hexec (LChA.law l t V i (lo8 (f i)) fm) hown (wks W (staticW "java/lang/String" 495 LChA.yN)) (wk W LChA.tab) (W := 0) (Nat.le_of_ble_eq_true rfl) (Nat.le_of_ble_eq_true rfl) (Nat.le_refl _) (Nat.le_refl _) (g := (mkF m 12 #[.val (.ref x), .val (.int (Int32.ofNat i))] [.int (Int32.ofNat i), .ref t])) rfl (by rw [hml]; rfl) c5 (argsL := [.ref t, .int (Int32.ofNat i)]) (rest := []) rfl rfl (by show 2 * 0 + 0 ≤ _; decide) (hb hbytes d12) (⟨rfl, hx.2.2.2.1.mv X4.warmed.alike hh4, (k2 i hi).1, s3.there X4.warmed.alike hh4, rf⟩)
    obtain ⟨rfl, q6⟩ := E6
    rw [chr8_lo8 hr.1 (k2 i hi).2] at g6
    exact ⟨T6, some (.int (f i)), _, _, _, X6, rfl, rfl, rfl, (fun h => by cases h), ⟨rfl, q6.trans hh4⟩, fun fs hl => Steps.trans g6 (X6.ireturnOut hexec hret (narrow_ch hr.1 hr.2) (Or.inr (Or.inr (Or.inr (Or.inl rfl)))) (hb hbytes d15) hl)⟩
  · exact absurd k0 (by decide)
theorem pays {l : Launch} {R : Room} {p : Program} {e : Env} {below : List Frame} {s : State} {sargs : Array Value} {len W : Nat} (x t : Addr) (V : Cell) (n : Nat) (f : Nat → Int32) (z : Int32) (fm : Value) (i : Nat) (htab : tab.before sargs s = true) (hfr : 4 ≤ R.frames) (hlo : W + 53 ≤ R.locals) :
    Back l R p e below s sargs yN len W (fun A₁ a₁ => A₁.cells + 0 ≤ R.cells ∧ A₁.slots + 0 ≤ R.slots ∧ P x t V n f z fm i a₁ A₁.U) (fun A₁ _ v₁ B₁ => E f i v₁ A₁.U B₁.U ∧ B₁.locs = A₁.locs ++ [] ∧ B₁.cells = A₁.cells + 0 ∧ B₁.slots = A₁.slots + 0) :=
  (law l x t V n f z fm i).pays htab hfr (by omega)
end ChN
end StrChars
namespace StrChars.Road
open Jvm Sem ClassFile Op Lib Jvm.Stand Jvm.Free Jvm.Free.XT
open Jvm.Lib.Cold (StaticIs)
/-- the words of String.charAt(int), the Latin-1 road alone -/
abbrev wordsChN : List Jvm.Cond := [.code ChN.yN ChN.yB 2 (some .char), .initialized ST, .fieldLink ST 9 ST "value" "[B", .fieldLink ST 38 ST "COMPACT_STRINGS" "Z", .fieldLink ST 15 ST "coder" "B", .code IsL.yN IsL.yB 1 (some .boolean), .methodLink ST 492 IsL.yN, .declares IsL.yN, .selects ST IsL.yN IsL.yN, .instanceMethod IsL.yN,
  .methodLink ST 495 LChA.yN, .static LChA.yN, .code LChA.yN LChA.yB 2 (some .char), .initialized "java/lang/StringLatin1", .methodLink "java/lang/StringLatin1" 9 JO.Str_checkIndex.yN, .static JO.Str_checkIndex.yN, .code JO.Str_checkIndex.yN JO.Str_checkIndex.yB 2 none,
  .fieldLink ST 1053 "jdk/internal/util/Preconditions" "SIOOBE_FORMATTER" "Ljava/util/function/BiFunction;", .methodLink ST 1059 JC.PreCheck.yN, .static JC.PreCheck.yN, .code JC.PreCheck.yN JC.PreCheck.yB 3 (some .int), .initialized "jdk/internal/util/Preconditions"]
theorem tabChN_of {a : Array Value} {s : State} (h : ∀ w ∈ wordsChN, w.before a s = true) : ChN.tab.before a s = true := by
  have hp : JC.PreCheck.tab.before a s = true := unparts (wk h (.code JC.PreCheck.yN JC.PreCheck.yB 3 (some .int))) (wks h (.initialized JC.PreCheck.yN.cls :: JC.PreCheck.site))
  have qk := consq hp h
  have hk : JO.Str_checkIndex.tab.before a s = true := unparts (wk qk (.code JO.Str_checkIndex.yN JO.Str_checkIndex.yB 2 none)) (wks qk (.initialized JO.Str_checkIndex.yN.cls :: JO.Str_checkIndex.site))
  have ql := consq hk h
  have hl : LChA.tab.before a s = true := unparts (wk ql (.code LChA.yN LChA.yB 2 (some .char))) (wks ql (.initialized LChA.yN.cls :: LChA.site))
  have hi : IsL.tab.before a s = true := unparts (wk h (.code IsL.yN IsL.yB 1 (some .boolean))) (wks h (.initialized IsL.yN.cls :: IsL.site))
  have q := consq hi (consq hl h)
  exact unparts (wk q (.code ChN.yN ChN.yB 2 (some .char))) (wks q (.initialized ChN.yN.cls :: ChN.site))
theorem movedChN {Z s : State} {a0 args : Array Value} (hZ : Z.Warmed39 s.vm) (hw : ∀ d ∈ wordsChN, d.before a0 Z = true) : ∀ d ∈ wordsChN, d.before args s = true := fun d hd => by
  have t : ∀ d ∈ wordsChN, (d.onTables && d.keepsFace) = true := by decide +kernel
  exact RoadKit.mv hZ (hw d hd) (t d hd)
/-- **charAt(i) OF A LATIN-1 STRING**, i < n: the char -/
theorem chN {p : Program} {l : Launch} {e : Env} {R : Room} {s : State} {args : Array Value} {below : List Frame} {len W : Nat} {Z : State} {a0 : Array Value} {h : Heap} (hZ : Z.Warmed39 s.vm) (hw : ∀ d ∈ wordsChN, d.before a0 Z = true) {kI : Nat} (wi : (Jvm.Cond.instantiable ST kI).before a0 Z = true)
    {x t : Addr} {kb : ClassId} {cs : List Int32} {N2 z : Int32} {vs : List Value} {fm : Value} {i : Nat} {j : Int32} (E : RoadKit.Exa Z h x ST) (V : RoadKit.Fld Z h x ST "value" "[B" (.ref t)) (C : RoadKit.Fld Z h x ST "coder" "B" (.int 0)) (K : RoadKit.Arv Z h t kb .byte N2 vs (.int 0)) (hc : CodA cs 0 N2 vs) (hb : ∀ c ∈ cs, ¬ c < 0 ∧ ¬ (65535 : Int32) < c)
    (S : RoadKit.Sta Z h ST "COMPACT_STRINGS" "Z" (.int z)) (hz : ¬ z = 0) (F : RoadKit.Sta Z h "jdk/internal/util/Preconditions" "SIOOBE_FORMATTER" "Ljava/util/function/BiFunction;" fm) (rf : fm.isRef = true) (l2 : cs.length ≤ 4000) (hi : i < cs.length) (hj : j = Int32.ofNat i) (hfr : 4 ≤ R.frames) (hlo : W + 53 ≤ R.locals) :
    Back l R p e below s args (⟨"java/lang/String", "charAt", "(I)C"⟩ : MethodName) len W (fun P a => a = #[.ref x, .int j] ∧ P.U.heap = h ∧ P.cells + 0 ≤ R.cells ∧ P.slots + 0 ≤ R.slots)
      (fun P _ v B => ∃ L, (v = some (.int (cs.getD i 0)) ∧ L = [] ∧ B.U.heap = h) ∧ B.locs = P.locs ++ L ∧ B.cells = P.cells + 0 ∧ B.slots = P.slots + 0) := by
  subst hj
  intro m meth c P g ig mk a X hg hsize hdg hW hn hp'
  obtain ⟨rfl, rfl, r1, r2⟩ := hp'
  have al : Z.vm.Alike P.U.vm := hZ.alike.trans X.warmed.alike
  obtain ⟨A, hx⟩ := txt_of wi al E V C K hc hb l2
  obtain ⟨v, B, X', ⟨⟨hv, hh⟩, hl, hk, hs⟩, st⟩ := ChN.pays x t A cs.length (fun j => cs.getD j 0) z fm i (tabChN_of (movedChN hZ hw)) hfr hlo m meth c P g ig mk _ X hg hsize hdg hW hn ⟨r1, r2, rfl, hx, hi, sta_is al S, hz, sta_is al F, rf⟩
  exact ⟨v, B, X', ⟨[], ⟨hv, rfl, hh⟩, hl, hk, hs⟩, st⟩
/-- what backV says of its String, as the contracts of this text ask it: cs's low bytes, coder 0 -/
theorem codOf {cs : List Int32} {n : Nat} (hn : cs.length = n) (hb : ∀ c ∈ cs, ¬ 255 < c) : CodA cs 0 (Int32.ofNat n) ((cs.map lo8).map Value.int) := Or.inl ⟨rfl, by rw [hn], by simp [List.map_map, Function.comp_def], hb⟩
end StrChars.Road
end Jvm.Pilot.@@N@@
-- part pre
namespace Jvm.Pilot.@@N@@
open Jvm Jvm.ClassFile Sem Op Lib Jvm.Free Jvm.Stand Jvm.LawKit Jvm.RoadKit Bundle Jvm.Pilot.@@N@@.Jvm.D
section Pre
variable {Z : State} {a0 : Array Value} {EL : List (String × Nat)} {sv : Option Value → Heap → Addr → Prop} {kx : Bool} {p : Program} {l : Launch} {e : Env} {R : Room} {s : State} {m : MethodId} {args : Array Value} {below : List Frame} {meth : Method} {c : Code} {own : String} {bytes : ByteArray} {maxL : Nat} {rt : Option FieldType} {nm : String} {h0 : Heap} {ws sf : List Addr} {T : State} {h : Heap} {locs : List Loc} {cells slots : Nat} {Q : Option Value → Heap → Prop} {kc ks : Nat}
/-- no reference is said to be safe; the one that comes back is -/
def svN : Option Value → Heap → Addr → Prop := fun _ _ _ => False
def svR : Option Value → Heap → Addr → Prop := fun v _ x => v = some (.ref x)
theorem neA {x y : Addr} (h : @LT.lt Nat _ x y ∨ @LT.lt Nat _ y x) : x ≠ y := fun e => by subst e; rcases h with h | h <;> exact Nat.lt_irrefl _ h
/-- the i-th word of the tables -/
theorem wd (hw : ∀ d ∈ tables_1, d.before a0 Z = true) (i : Nat) {d : Jvm.Cond} (hd : tables_1[i]? = some d) : d.before a0 Z = true := hw d (List.mem_of_getElem? hd)
/-- the run from T with the frame g on top ends well: it returns, and Q says what -/
def Run (Z : State) (EL : List (String × Nat)) (sv : Option Value → Heap → Addr → Prop) (p : Program) (e : Env) (below : List Frame) (s : State) (h0 : Heap) (ws : List Addr) (Q : Option Value → Heap → Prop) (kc ks : Nat) (T : State) (g : JFrame) : Prop :=
  ∃ s₂ o, Steps p.tables e below (T.setTop g) s₂ ∧ s₂.status = .running ∧ Ended s₂ below o ∧ ∃ v L, o = .returned v ∧ (Fr Z.heap.size L ∧ Keep h0 s₂.heap ws ∧ Q v s₂.heap) ∧ CHr Z EL s.vm h0 s₂.vm s₂.heap ∧ ReturnedEndW s o s₂ L kc ks ∧ (NW = true → s.WarmedH s₂.vm) ∧ (∀ x, sv v s₂.heap x → x < s₂.heap.size ∧ Safe Z EL s₂.vm s₂.heap x)
/-- what a walk bears at every place: besides the Stand (over the start with the tables at hand): what is plain; what is said of the tables -/
def Sit (Z : State) (a0 : Array Value) (EL : List (String × Nat)) (kx : Bool) (p : Program) (l : Launch) (e : Env) (R : Room) (s : State) (m : MethodId) (args : Array Value) (below : List Frame) (meth : Method) (c : Code) (own : String) (bytes : ByteArray) (maxL : Nat) (rt : Option FieldType) (nm : String) (h0 : Heap) (ws : List Addr) (sf : List Addr) (T : State) (h : Heap) (locs : List Loc) (cells slots : Nat) : Prop :=
  (T.heap = h ∧ p.tables.exec = Jvm.exec ∧ c.code = bytes ∧ c.maxLocals = maxL ∧ meth.sig.returnType = rt ∧ meth.locks = false ∧ meth.name = nm ∧ Fr Z.heap.size locs ∧ Keep h0 h ws ∧ Ext Z.heap h ∧ EW Z a0 EL ∧ (kx = true → s.vm.MethodsKnown ∧ s.vm.FramesKnown below ∧ s.heap = h0)) ∧
  ∃ vm0 k0, Stand p l e R (s.setVm vm0) m args below meth c T locs cells slots ∧ Z.Warmed39 vm0 ∧ vm0.findClass own = some m.cls ∧ s.Since vm0 k0 ∧ k0 ≤ h.size ∧ CHr Z EL s.vm h0 vm0 h ∧ (∀ x ∈ sf, x < h.size ∧ Safe Z EL vm0 h x) ∧ (NW = true → s.WarmedH vm0)
theorem Sit.eh (X : Sit Z a0 EL kx p l e R s m args below meth c own bytes maxL rt nm h0 ws sf T h locs cells slots) : T.heap = h := X.1.1
theorem Sit.ex (X : Sit Z a0 EL kx p l e R s m args below meth c own bytes maxL rt nm h0 ws sf T h locs cells slots) : p.tables.exec = Jvm.exec := X.1.2.1
theorem Sit.byt (X : Sit Z a0 EL kx p l e R s m args below meth c own bytes maxL rt nm h0 ws sf T h locs cells slots) : c.code = bytes := X.1.2.2.1
theorem Sit.ml (X : Sit Z a0 EL kx p l e R s m args below meth c own bytes maxL rt nm h0 ws sf T h locs cells slots) : c.maxLocals = maxL := X.1.2.2.2.1
theorem Sit.rtt (X : Sit Z a0 EL kx p l e R s m args below meth c own bytes maxL rt nm h0 ws sf T h locs cells slots) : meth.sig.returnType = rt := X.1.2.2.2.2.1
theorem Sit.lk (X : Sit Z a0 EL kx p l e R s m args below meth c own bytes maxL rt nm h0 ws sf T h locs cells slots) : meth.locks = false := X.1.2.2.2.2.2.1
theorem Sit.nmm (X : Sit Z a0 EL kx p l e R s m args below meth c own bytes maxL rt nm h0 ws sf T h locs cells slots) : meth.name = nm := X.1.2.2.2.2.2.2.1
theorem Sit.fr (X : Sit Z a0 EL kx p l e R s m args below meth c own bytes maxL rt nm h0 ws sf T h locs cells slots) : Fr Z.heap.size locs := X.1.2.2.2.2.2.2.2.1
theorem Sit.kp (X : Sit Z a0 EL kx p l e R s m args below meth c own bytes maxL rt nm h0 ws sf T h locs cells slots) : Keep h0 h ws := X.1.2.2.2.2.2.2.2.2.1
theorem Sit.old (X : Sit Z a0 EL kx p l e R s m args below meth c own bytes maxL rt nm h0 ws sf T h locs cells slots) : Ext Z.heap h := X.1.2.2.2.2.2.2.2.2.2.1
theorem Sit.ew (X : Sit Z a0 EL kx p l e R s m args below meth c own bytes maxL rt nm h0 ws sf T h locs cells slots) : EW Z a0 EL := X.1.2.2.2.2.2.2.2.2.2.2.1
theorem Sit.kno (X : Sit Z a0 EL kx p l e R s m args below meth c own bytes maxL rt nm h0 ws sf T h locs cells slots) : kx = true → s.vm.MethodsKnown ∧ s.vm.FramesKnown below ∧ s.heap = h0 := X.1.2.2.2.2.2.2.2.2.2.2.2
theorem Sit.at (X : Sit Z a0 EL kx p l e R s m args below meth c own bytes maxL rt nm h0 ws sf T h locs cells slots) : At T m c below := by obtain ⟨-, vm0, k0, X, -⟩ := X; exact X.here
theorem Sit.de (X : Sit Z a0 EL kx p l e R s m args below meth c own bytes maxL rt nm h0 ws sf T h locs cells slots) {pc : Nat} {r : Except ClassFile.DecodeError (ClassFile.Instr × Nat)} (h2 : ClassFile.decode bytes pc = r) : ClassFile.decode c.code pc = r := X.byt ▸ h2
theorem extKp {h' : Heap} {wz : List Addr} (O : Ext Z.heap h) (K : Keep h h' wz) (q : ∀ x ∈ wz, Z.heap.size ≤ x) : Ext Z.heap h' := ⟨Nat.le_trans O.1 K.1, fun a cl r => K.2.1 _ _ (O.2 _ _ r) fun z => absurd (Array.getElem?_eq_some_iff.mp r).1 (Nat.not_lt.mpr (q _ z))⟩
theorem extK {h h' : Heap} (E : Ext h h') : Keep h h' [] := (Keep.refl h []).ext E
theorem Sit.mono (X : Sit Z a0 EL kx p l e R s m args below meth c own bytes maxL rt nm h0 ws sf T h locs cells slots) {k n : Nat} (hk : cells ≤ k) (hn : slots ≤ n) : Sit Z a0 EL kx p l e R s m args below meth c own bytes maxL rt nm h0 ws sf T h locs k n := by
  obtain ⟨F, vm0, k0, Y, r⟩ := X; exact ⟨F, vm0, k0, Y.mono hk hn, r⟩
theorem Sit.less {sf' : List Addr} (X : Sit Z a0 EL kx p l e R s m args below meth c own bytes maxL rt nm h0 ws sf T h locs cells slots) (q : ∀ x ∈ sf', x ∈ sf) : Sit Z a0 EL kx p l e R s m args below meth c own bytes maxL rt nm h0 ws sf' T h locs cells slots := by
  obtain ⟨F, vm0, k0, Y, r1, r2, r3, r4, r5, r6, r7⟩ := X; exact ⟨F, vm0, k0, Y, r1, r2, r3, r4, r5, fun x hx => r6 x (q x hx), r7⟩
theorem Run.via {T' : State} {g g' : JFrame} (q : ∀ t, Steps p.tables e below (T'.setTop g') t → Steps p.tables e below (T.setTop g) t) (r : Run Z EL sv p e below s h0 ws Q kc ks T' g') : Run Z EL sv p e below s h0 ws Q kc ks T g := by
  obtain ⟨s₂, o, r1, r2⟩ := r
  exact ⟨s₂, o, q _ r1, r2⟩
theorem Run.on {T' : State} {g g' : JFrame} (q : Steps p.tables e below (T.setTop g) (T'.setTop g')) (r : Run Z EL sv p e below s h0 ws Q kc ks T' g') : Run Z EL sv p e below s h0 ws Q kc ks T g := Run.via (fun _ k => q.trans k) r
/-- the end -/
theorem Run.out (X : Sit Z a0 EL kx p l e R s m args below meth c own bytes maxL rt nm h0 ws sf T h locs cells slots) {v : Option Value} {g : JFrame} (hv : rt = none → v = none) (hc : cells ≤ kc) (hs : slots ≤ ks) (hq : Q v h) (hsv : ∀ x, sv v h x → x ∈ sf)
    (q : ∀ vm0 fs, Stand p l e R (s.setVm vm0) m args below meth c T locs cells slots → (∀ (f : JFrame) (acts : List Action), f.method = m → f.locked = none → f.entered = [] → (doReturn e (T.setTop f) acts v).1 = T.setFrames fs) → Steps p.tables e below (T.setTop g) (T.setFrames fs)) : Run Z EL sv p e below s h0 ws Q kc ks T g := by
  obtain ⟨F, vm0, k0, Y, r1, r2, r3, r4, r5, r6, r7⟩ := id X
  obtain ⟨fs, hr, hrun, hended, hW⟩ := Y.leaveW r3 (by rw [X.eh]; exact r4) (v := v) (fun z => hv (X.rtt.symm.trans z)) X.lk
  have eh : (T.setFrames fs).heap = h := X.eh
  have ev : (T.setFrames fs).vm = T.vm := rfl
  refine ⟨_, _, q vm0 fs Y hr, hrun, hended, v, locs, rfl, ⟨X.fr, by rw [eh]; exact X.kp, by rw [eh]; exact hq⟩, ?_, ⟨hW.1, hW.2.1, hW.2.2.1, hW.2.2.2.mono hc hs⟩, fun z => ?_, fun x hx => ?_⟩
  · rw [eh, ev]; exact r5.trans (CHv.at Y r1 X.ew r5.1)
  · rw [ev]; exact State.WarmedH.trans (t := s.setVm vm0) (r7 z) Y.warmed
  · rw [eh] at hx ⊢; rw [ev]; exact ⟨(r6 x (hsv x hx)).1, (CHv.at Y r1 X.ew r5.1).safe (r6 x (hsv x hx)).1 (r6 x (hsv x hx)).2⟩
theorem Run.retN (X : Sit Z a0 EL kx p l e R s m args below meth c own bytes maxL rt nm h0 ws sf T h locs cells slots) {pc : Nat} {Ls : Array Slot} {z : Int32} {rest : List Value} {t : FieldType} (hr : rt = some t) (ht : t = .boolean ∨ t = .byte ∨ t = .char ∨ t = .short) (hd : decode bytes pc = .ok (.ireturn, 1)) (hc : cells ≤ kc) (hs : slots ≤ ks) (hq : Q (some (.int (nar t z))) h) (hsv : ∀ x, sv (some (.int (nar t z))) h x → x ∈ sf := by exact fun _ z => z.elim) :
    Run Z EL sv p e below s h0 ws Q kc ks T (mkF m pc Ls (.int z :: rest)) :=
  Run.out X (fun z => by rw [hr] at z; cases z) hc hs hq hsv fun vm0 fs Y q => Jvm.RoadKit.retN Y X.ex (X.rtt.trans hr) ht (X.de hd) q
theorem Run.retI (X : Sit Z a0 EL kx p l e R s m args below meth c own bytes maxL rt nm h0 ws sf T h locs cells slots) {pc : Nat} {Ls : Array Slot} {z : Int32} {rest : List Value} (hr : rt = some .int) (hd : decode bytes pc = .ok (.ireturn, 1)) (hc : cells ≤ kc) (hs : slots ≤ ks) (hq : Q (some (.int z)) h) (hsv : ∀ x, sv (some (.int z)) h x → x ∈ sf := by exact fun _ z => z.elim) :
    Run Z EL sv p e below s h0 ws Q kc ks T (mkF m pc Ls (.int z :: rest)) :=
  Run.out X (fun z => by rw [hr] at z; cases z) hc hs hq hsv fun vm0 fs Y q => retOut Y X.ex (X.rtt.trans hr) rfl (Or.inl ⟨rfl, Or.inl rfl, z, rfl⟩) (X.de hd) q
theorem Run.retA (X : Sit Z a0 EL kx p l e R s m args below meth c own bytes maxL rt nm h0 ws sf T h locs cells slots) {pc : Nat} {Ls : Array Slot} {v : Value} {rest : List Value} {t : FieldType} (hr : rt = some t) (ht : t.isReference = true) (hv : v.isRef = true) (hd : decode bytes pc = .ok (.areturn, 1)) (hc : cells ≤ kc) (hs : slots ≤ ks) (hq : Q (some v) h) (hsv : ∀ x, sv (some v) h x → x ∈ sf) :
    Run Z EL sv p e below s h0 ws Q kc ks T (mkF m pc Ls (v :: rest)) :=
  Run.out X (fun z => by rw [hr] at z; cases z) hc hs hq hsv fun vm0 fs Y q => retOut Y X.ex (X.rtt.trans hr) (by rcases ref_cases hv with rfl | ⟨_, rfl⟩ <;> cases t <;> rfl) (Or.inr (Or.inr (Or.inr (Or.inr ⟨rfl, ht, hv⟩)))) (X.de hd) q
theorem Run.retV (X : Sit Z a0 EL kx p l e R s m args below meth c own bytes maxL rt nm h0 ws sf T h locs cells slots) {pc : Nat} {Ls : Array Slot} (hr : rt = none) (hd : decode bytes pc = .ok (.return_, 1)) (hc : cells ≤ kc) (hs : slots ≤ ks) (hq : Q none h) (hsv : ∀ x, sv none h x → x ∈ sf := by exact fun _ z => z.elim) :
    Run Z EL sv p e below s h0 ws Q kc ks T (mkF m pc Ls []) :=
  Run.out X (fun _ => rfl) hc hs hq hsv fun vm0 fs Y q => Y.returnOut X.ex (X.rtt.trans hr) (X.de hd) q
/-- a body's contract; sf: objects handed in that are no booked literal's -/
def Con (l : Launch) (Z : State) (a0 : Array Value) (EL : List (String × Nat)) (sv : Option Value → Heap → Addr → Prop) (kx : Bool) (y : MethodName) (bytes : ByteArray) (maxL : Nat) (rt : Option FieldType) (rm : Room) (ws sf : List Addr) (as' : Array Value) (h0 : Heap) (Q : Option Value → Heap → Prop) : Prop :=
  EW Z a0 EL → ∀ wds, MetFree l y (head1 (Jvm.Cond.code y bytes maxL rt :: wds) rm) (fun a U => a = as' ∧ Z.Warmed39 U.vm ∧ U.heap = h0 ∧ CHv Z EL U.vm h0 ∧ ∀ x ∈ sf, x < h0.size ∧ Safe Z EL U.vm h0 x) (fun _ _ bl s _ => kx = true → s.vm.MethodsKnown ∧ s.vm.FramesKnown bl) (fun _ U o U' => ∃ v L, o = .returned v ∧ (Fr Z.heap.size L ∧ Keep h0 U'.heap ws ∧ Q v U'.heap) ∧ CHr Z EL U.vm h0 U'.vm U'.heap ∧ ReturnedEndW U o U' L rm.cells rm.slots ∧ (NW = true → U.WarmedH U'.vm) ∧ (∀ x, sv v U'.heap x → x < U'.heap.size ∧ Safe Z EL U'.vm U'.heap x))
theorem Con.enter {y : MethodName} {rm : Room} {as' : Array Value} (hn : plainFor y = true) (hE : Ext Z.heap h0)
    (body : ∀ p e s m below meth c T, Sit Z a0 EL kx p l e rm s m as' below meth c y.cls bytes maxL rt y.name h0 ws sf T h0 [] 0 0 → Run Z EL sv p e below s h0 ws Q rm.cells rm.slots T (entryFrame m as' maxL)) : Con l Z a0 EL sv kx y bytes maxL rt rm ws sf as' h0 Q := by
  intro hEW wds
  refine MetFree.of_bodySF hn hisR ?_
  intro p e s m args below meth c s₁ Bd hml0 hP hK
  obtain ⟨rfl, hZ, hh, hH, hsf⟩ := hP
  have X0 : Stand p l e rm s m args below meth c s₁ [] 0 0 := Stand.of_body Bd
  have e0 : s₁.heap = h0 := by rw [← hh, Bd.state]; rfl
  exact body p e s m below meth c s₁ ⟨⟨e0, Bd.exec, Bd.bytes, hml0, Bd.returns, Bd.notSynchronized, (name_of_methodNamed Bd.named Bd.method).1, Fr.nil _, Keep.refl _ _, hE, hEW, fun z => ⟨(hK z).1, (hK z).2, hh⟩⟩, s.vm, h0.size, X0, hZ, findClass_of_methodNamed Bd.named, (State.WarmedH.refl s).since _, Nat.le_refl _, CHr.refl hH, hsf, fun _ => State.WarmedH.refl s⟩
/-! steps: the same base -/
/-- the walk goes on: other state, same heap -/
theorem Sit.same (X : Sit Z a0 EL kx p l e R s m args below meth c own bytes maxL rt nm h0 ws sf T h locs cells slots) {Q' : State → Prop} (q : ∀ vm0, Stand p l e R (s.setVm vm0) m args below meth c T locs cells slots → Z.Warmed39 (s.setVm vm0).vm → (s.setVm vm0).vm.findClass own = some m.cls → ∃ T', Stand p l e R (s.setVm vm0) m args below meth c T' locs cells slots ∧ T'.heap = h ∧ Q' T') : ∃ T', Sit Z a0 EL kx p l e R s m args below meth c own bytes maxL rt nm h0 ws sf T' h locs cells slots ∧ Q' T' := by
  obtain ⟨F, vm0, k0, Y, r1, r2, r⟩ := id X
  obtain ⟨T', Y', e', q'⟩ := q vm0 Y r1 r2
  exact ⟨T', ⟨⟨e', X.ex, X.byt, X.ml, X.rtt, X.lk, X.nmm, X.fr, X.kp, X.old, X.ew, X.kno⟩, vm0, k0, Y', r1, r2, r⟩, q'⟩
/-- .. the heap has grown by an object x; it is nobody's literal -/
theorem Sit.grow (X : Sit Z a0 EL kx p l e R s m args below meth c own bytes maxL rt nm h0 ws sf T h locs cells slots) {k n : Nat} {Q' : State → Heap → Prop} (q : ∀ vm0, Stand p l e R (s.setVm vm0) m args below meth c T locs cells slots → Z.Warmed39 (s.setVm vm0).vm → (s.setVm vm0).vm.findClass own = some m.cls → ∃ T' h', Stand p l e R (s.setVm vm0) m args below meth c T' locs k n ∧ T'.heap = h' ∧ Ext h h' ∧ h.size < h'.size ∧ Q' T' h') : ∃ T' h', Sit Z a0 EL kx p l e R s m args below meth c own bytes maxL rt nm h0 ws (h.size :: sf) T' h' locs k n ∧ Ext h h' ∧ Q' T' h' := by
  obtain ⟨F, vm0, k0, Y, r1, r2, r3, r4, r5, r6, r7⟩ := id X
  obtain ⟨T', h', Y', e', E, lt, q'⟩ := q vm0 Y r1 r2
  refine ⟨T', h', ⟨⟨e', X.ex, X.byt, X.ml, X.rtt, X.lk, X.nmm, X.fr, X.kp.ext E, extKp X.old (extK E) (fun _ z => nomatch z), X.ew, X.kno⟩, vm0, k0, Y', r1, r2, r3, Nat.le_trans r4 E.1, r5.trans (CHr.ext E r5.1), fun x hx => ?_, r7⟩, E, q'⟩
  rcases List.mem_cons.mp hx with rfl | hx
  · exact ⟨lt, (Safe.new (Nat.le_refl _)).ext E r5.1⟩
  · exact ⟨Nat.lt_of_lt_of_le (r6 x hx).1 E.1, (r6 x hx).2.ext E r5.1⟩
/-- .. only the places wz were written, none of a literal's -/
theorem Sit.go (X : Sit Z a0 EL kx p l e R s m args below meth c own bytes maxL rt nm h0 ws sf T h locs cells slots) {k n : Nat} {wz : List Addr} {Q' : State → Heap → List Loc → Prop} (r : ∀ x ∈ wz, (x ∈ ws ∨ h0.size ≤ x) ∧ Z.heap.size ≤ x) (sfe : ∀ vm0, Z.vm.Alike vm0 → (∀ x ∈ sf, Safe Z EL vm0 h x) → ∀ x ∈ wz, Safe Z EL vm0 h x)
    (q : ∀ vm0, Stand p l e R (s.setVm vm0) m args below meth c T locs cells slots → Z.Warmed39 (s.setVm vm0).vm → (s.setVm vm0).vm.findClass own = some m.cls → ∃ T' h' L, Stand p l e R (s.setVm vm0) m args below meth c T' (locs ++ L) k n ∧ T'.heap = h' ∧ Keep h h' wz ∧ Fr Z.heap.size L ∧ Q' T' h' L) : ∃ T' h' L, Sit Z a0 EL kx p l e R s m args below meth c own bytes maxL rt nm h0 ws sf T' h' (locs ++ L) k n ∧ Keep h h' wz ∧ Q' T' h' L := by
  obtain ⟨F, vm0, k0, Y, r1, r2, r3, r4, r5, r6, r7⟩ := id X
  obtain ⟨T', h', L, Y', e', K, N, q'⟩ := q vm0 Y r1 r2
  have sw := sfe vm0 r1.alike fun x hx => (r6 x hx).2
  exact ⟨T', h', L, ⟨⟨e', X.ex, X.byt, X.ml, X.rtt, X.lk, X.nmm, Fr.app X.fr N, X.kp.trans K fun x hx => (r x hx).1, extKp X.old K fun x hx => (r x hx).2, X.ew, X.kno⟩, vm0, k0, Y', r1, r2, r3, Nat.le_trans r4 K.1, r5.trans (CHr.keep K sw r5.1), fun x hx => ⟨Nat.lt_of_lt_of_le (r6 x hx).1 K.1, (r6 x hx).2.keep K sw r5.1⟩, r7⟩, K, q'⟩
/-- .. as 'go', the places said anew -/
theorem Sit.goL (X : Sit Z a0 EL kx p l e R s m args below meth c own bytes maxL rt nm h0 ws sf T h locs cells slots) {k n : Nat} {wz : List Addr} {Q' : State → Heap → Prop} (r : ∀ x ∈ wz, (x ∈ ws ∨ h0.size ≤ x) ∧ Z.heap.size ≤ x) (sfe : ∀ vm0, Z.vm.Alike vm0 → (∀ x ∈ sf, Safe Z EL vm0 h x) → ∀ x ∈ wz, Safe Z EL vm0 h x)
    (q : ∀ vm0, Stand p l e R (s.setVm vm0) m args below meth c T locs cells slots → Z.Warmed39 (s.setVm vm0).vm → (s.setVm vm0).vm.findClass own = some m.cls → ∃ T' h' L, Stand p l e R (s.setVm vm0) m args below meth c T' L k n ∧ T'.heap = h' ∧ Keep h h' wz ∧ Fr Z.heap.size L ∧ Q' T' h') : ∃ T' h' L, Sit Z a0 EL kx p l e R s m args below meth c own bytes maxL rt nm h0 ws sf T' h' L k n ∧ Keep h h' wz ∧ Q' T' h' := by
  obtain ⟨F, vm0, k0, Y, r1, r2, r3, r4, r5, r6, r7⟩ := id X
  obtain ⟨T', h', L, Y', e', K, N, q'⟩ := q vm0 Y r1 r2
  have sw := sfe vm0 r1.alike fun x hx => (r6 x hx).2
  exact ⟨T', h', L, ⟨⟨e', X.ex, X.byt, X.ml, X.rtt, X.lk, X.nmm, N, X.kp.trans K fun x hx => (r x hx).1, extKp X.old K fun x hx => (r x hx).2, X.ew, X.kno⟩, vm0, k0, Y', r1, r2, r3, Nat.le_trans r4 K.1, r5.trans (CHr.keep K sw r5.1), fun x hx => ⟨Nat.lt_of_lt_of_le (r6 x hx).1 K.1, (r6 x hx).2.keep K sw r5.1⟩, r7⟩, K, q'⟩
/-- .. a step that may have interned: another base -/
theorem Sit.reb (X : Sit Z a0 EL kx p l e R s m args below meth c own bytes maxL rt nm h0 ws sf T h locs cells slots) {k n : Nat} {wz : List Addr} {Q' : State → Heap → List Loc → Prop} (r : ∀ x ∈ wz, (x ∈ ws ∨ h0.size ≤ x) ∧ Z.heap.size ≤ x)
    (q : ∀ vm0 k0, Stand p l e R (s.setVm vm0) m args below meth c T locs cells slots → Z.Warmed39 (s.setVm vm0).vm → (s.setVm vm0).vm.findClass own = some m.cls → s.Since vm0 k0 → k0 ≤ h.size → CHv Z EL vm0 h → (∀ x ∈ sf, x < h.size ∧ Safe Z EL vm0 h x) → ∃ T' h' L k1, Stand p l e R (s.setVm T'.vm) m args below meth c T' (locs ++ L) k n ∧ T'.heap = h' ∧ Keep h h' wz ∧ Fr Z.heap.size L ∧ Z.Warmed39 T'.vm ∧ T'.vm.findClass own = some m.cls ∧ s.Since T'.vm k1 ∧ k1 ≤ h'.size ∧ CHr Z EL vm0 h T'.vm h' ∧ (NW = true → (s.setVm vm0).WarmedH T'.vm) ∧ Q' T' h' L) :
    ∃ T' h' L, (∀ sf', (∀ x ∈ sf', x ∈ sf ∨ (x < h'.size ∧ Safe Z EL T'.vm h' x)) → Sit Z a0 EL kx p l e R s m args below meth c own bytes maxL rt nm h0 ws sf' T' h' (locs ++ L) k n) ∧ Keep h h' wz ∧ Q' T' h' L := by
  obtain ⟨F, vm0, k0, Y, r1, r2, r3, r4, r5, r6, r7⟩ := id X
  obtain ⟨T', h', L, k1, Y', e', K, N, W1, W2, S1, hk1, C1, n1, q'⟩ := q vm0 k0 Y r1 r2 r3 r4 r5.1 r6
  refine ⟨T', h', L, fun sf' hsf' => ⟨⟨e', X.ex, X.byt, X.ml, X.rtt, X.lk, X.nmm, Fr.app X.fr N, X.kp.trans K fun x hx => (r x hx).1, extKp X.old K fun x hx => (r x hx).2, X.ew, X.kno⟩, _, k1, Y', W1, W2, S1, hk1, r5.trans C1, fun x hx => ?_, fun z => State.WarmedH.trans (t := s.setVm vm0) (r7 z) (n1 z)⟩, K, q'⟩
  rcases hsf' x hx with hx | hx
  · exact ⟨Nat.lt_of_lt_of_le (r6 x hx).1 K.1, C1.safe (r6 x hx).1 (r6 x hx).2⟩
  · exact hx
theorem Run.new (X : Sit Z a0 EL kx p l e R s m args below meth c own bytes maxL rt nm h0 ws sf T h locs cells slots) {C : String} {index n pc : Nat} {Ls : Array Slot} {st : List Value} (w : (Cond.classLink own index C).before a0 Z = true) (wi : (Cond.instantiable C n).before a0 Z = true) (wz : (Cond.initialized C).before a0 Z = true) (hd : decode bytes pc = .ok (.new index, 3)) (hc : cells + 1 ≤ R.cells) (hl : slots + n ≤ R.slots)
    (k : ∀ (T' : State) (h' : Heap) (x : Addr), @Eq Nat x h.size → Sit Z a0 EL kx p l e R s m args below meth c own bytes maxL rt nm h0 ws (x :: sf) T' h' locs (cells + 1) (slots + n) → Keep h h' [] → @LT.lt Nat _ x h'.size → Exa Z h' x C → (∀ {O f d : String} {ty : FieldType}, Laid Z a0 C O f d → parseFieldDescriptor d = some ty → Fld Z h' x O f d (defaultValue ty)) → Run Z EL sv p e below s h0 ws Q kc ks T' (mkF m (pc + 3) Ls (.ref x :: st))) :
    Run Z EL sv p e below s h0 ws Q kc ks T (mkF m pc Ls st) := by
  obtain ⟨T', h', X', E, A, D, q⟩ := X.grow (k := cells + 1) (n := slots + n) (Q' := fun T' h' => Exa Z h' h.size C ∧ (∀ {O f d : String} {ty : FieldType}, Laid Z a0 C O f d → parseFieldDescriptor d = some ty → Fld Z h' h.size O f d (defaultValue ty)) ∧ ∀ t, Steps p.tables e below (T'.setTop (mkF m (pc + 3) Ls (.ref h.size :: st))) t → Steps p.tables e below (T.setTop (mkF m pc Ls st)) t) fun vm0 Y hZ ho => by
    obtain ⟨T', h', Y', e', E, A, D, -, q⟩ := newO Y X.ex hZ ho w wi wz X.eh (g := mkF m pc Ls st) rfl (X.de hd) hc hl
    exact ⟨T', h', Y', e', E, A.lt, A, D, q⟩
  exact Run.via q (k T' h' _ rfl X' (extK E) A.lt A D)
theorem Run.getf (X : Sit Z a0 EL kx p l e R s m args below meth c own bytes maxL rt nm h0 ws sf T h locs cells slots) {R0 O f d : String} {index pc : Nat} {Ls : Array Slot} {st : List Value} {a : Addr} {v : Value} (w : (Cond.fieldLink own index R0 f d).before a0 Z = true) (via : Via Z R0 O f d) (F : Fld Z h a O f d v) (hd : decode bytes pc = .ok (.getfield index, 3))
    (k : ∀ (T' : State), Sit Z a0 EL kx p l e R s m args below meth c own bytes maxL rt nm h0 ws sf T' h locs cells slots → Run Z EL sv p e below s h0 ws Q kc ks T' (mkF m (pc + 3) Ls (v :: st))) : Run Z EL sv p e below s h0 ws Q kc ks T (mkF m pc Ls (.ref a :: st)) := by
  obtain ⟨T', X', q⟩ := X.same fun vm0 Y hZ ho => getF Y X.ex hZ ho (host := "") (Or.inl w) via X.eh F (g := mkF m pc Ls (.ref a :: st)) rfl rfl (X.de hd)
  exact Run.via q (k T' X')
theorem Run.gets (X : Sit Z a0 EL kx p l e R s m args below meth c own bytes maxL rt nm h0 ws sf T h locs cells slots) {R0 O f d : String} {index pc : Nat} {Ls : Array Slot} {st : List Value} {v : Value} (w : (Cond.fieldLink own index R0 f d).before a0 Z = true) (via : Via Z R0 O f d) (F : Sta Z Z.heap O f d v) (hd : decode bytes pc = .ok (.getstatic index, 3))
    (k : ∀ (T' : State), Sit Z a0 EL kx p l e R s m args below meth c own bytes maxL rt nm h0 ws sf T' h locs cells slots → Run Z EL sv p e below s h0 ws Q kc ks T' (mkF m (pc + 3) Ls (v :: st))) : Run Z EL sv p e below s h0 ws Q kc ks T (mkF m pc Ls st) := by
  obtain ⟨T', X', q⟩ := X.same fun vm0 Y hZ ho => getS Y X.ex hZ (host := "") ho w via X.eh (F.ext X.old) (g := mkF m pc Ls st) rfl (X.de hd)
  exact Run.via q (k T' X')
theorem Run.putf (X : Sit Z a0 EL kx p l e R s m args below meth c own bytes maxL rt nm h0 ws sf T h locs cells slots) {R0 O f d C : String} {index pc kk : Nat} {Ls : Array Slot} {st : List Value} {a : Addr} {v v' old : Value} {ty : FieldType} (w : (Cond.fieldLink own index R0 f d).before a0 Z = true) (via : Via Z R0 O f d) (F : Fld Z h a O f d old) (E : Exa Z h a C) (L : (Cond.lays C O f d).before a0 Z = true ∨ ((Cond.laysFinal C O f d).before a0 Z = true ∧ own = O ∧ nm = "<init>")) (wi : (Cond.instantiable C kk).before a0 Z = true)
    (hty : parseFieldDescriptor d = some ty) (hn : narrow ty v = v') (hf : fits ty v' = true) (ha : a ∈ ws ∨ h0.size ≤ a) (hz : Z.heap.size ≤ a) (hsf : (C ≠ "java/lang/String" ∧ C ≠ "[B") ∨ a ∈ sf) (hd : decode bytes pc = .ok (.putfield index, 3))
    (k : ∀ (T' : State) (h' : Heap) (L : List Loc), Sit Z a0 EL kx p l e R s m args below meth c own bytes maxL rt nm h0 ws sf T' h' (locs ++ L) cells slots → Keep h h' [a] → Wr h h' a (RoadKit.slotOf Z O f d) v' → Fld Z h' a O f d v' → Exa Z h' a C → Run Z EL sv p e below s h0 ws Q kc ks T' (mkF m (pc + 3) Ls st)) : Run Z EL sv p e below s h0 ws Q kc ks T (mkF m pc Ls (v :: .ref a :: st)) := by
  obtain ⟨T', h', L', X', K, W, q⟩ := X.go (k := cells) (n := slots) (wz := [a]) (Q' := fun T' h' _ => Wr h h' a (RoadKit.slotOf Z O f d) v' ∧ ∀ t, Steps p.tables e below (T'.setTop (mkF m (pc + 3) Ls st)) t → Steps p.tables e below (T.setTop (mkF m pc Ls (v :: .ref a :: st))) t) (fun x hx => by cases List.mem_singleton.mp hx; exact ⟨ha, hz⟩) (fun vm0 al hs x hx => by cases List.mem_singleton.mp hx; exact hsf.elim (fun z => Safe.exa al E z.1 z.2) (hs a)) fun vm0 Y hZ ho => by
    obtain ⟨T', h', Y', e', W, q⟩ := putFN Y X.ex hZ ho w via X.eh F E (L.imp id fun z => ⟨z.1, z.2.1, X.nmm.trans z.2.2⟩) wi hty hn hf (g := mkF m pc Ls (v :: .ref a :: st)) rfl rfl (X.de hd)
    exact ⟨T', h', _, Y', e', Keep.of_wr W, fun y hy => by cases List.mem_singleton.mp hy; exact hz, W, q⟩
  exact Run.via q (k T' h' L' X' K W (F.same W) (E.wr W))
theorem Run.initO (X : Sit Z a0 EL kx p l e R s m args below meth c own bytes maxL rt nm h0 ws sf T h locs cells slots) {idx pc : Nat} {Ls : Array Slot} {a : Addr} {st : List Value} (w1 : (Cond.methodLink own idx Lib.objectInit).before a0 Z = true) (w2 : (Cond.instanceMethod Lib.objectInit).before a0 Z = true) (w3 : (Cond.code Lib.objectInit ⟨#[0xb1]⟩ 1 none).before a0 Z = true)
    (hsz : Ls.size = maxL) (hd : decode bytes pc = .ok (.invokespecial idx, 3)) (hf : 1 ≤ R.frames) (hl : (st.map fun v => v.category).sum + 12 ≤ R.locals)
    (k : ∀ (T' : State), Sit Z a0 EL kx p l e R s m args below meth c own bytes maxL rt nm h0 ws sf T' h locs cells slots → Run Z EL sv p e below s h0 ws Q kc ks T' (mkF m (pc + 3) Ls st)) : Run Z EL sv p e below s h0 ws Q kc ks T (mkF m pc Ls (.ref a :: st)) := by
  obtain ⟨T', X', q⟩ := X.same fun vm0 Y hZ ho => Jvm.RoadKit.initO Y X.ex hZ ho w1 w2 w3 X.eh (g := mkF m pc Ls (.ref a :: st)) rfl (hsz.trans X.ml.symm) rfl (X.de hd) hf (W := (st.map fun v => v.category).sum) (by show 2 * 0 + _ ≤ _; omega) hl
  exact Run.via q (k T' X')
theorem Run.ldcI (X : Sit Z a0 EL kx p l e R s m args below meth c own bytes maxL rt nm h0 ws sf T h locs cells slots) {index pc : Nat} {v : Int32} {Ls : Array Slot} {st : List Value} (w : (Cond.constant own index v).before a0 Z = true) (hd : decode bytes pc = .ok (.ldc index, 2))
    (k : Run Z EL sv p e below s h0 ws Q kc ks T (mkF m (pc + 2) Ls (.int v :: st))) : Run Z EL sv p e below s h0 ws Q kc ks T (mkF m pc Ls st) := by
  obtain ⟨-, vm0, k0, Y, r1, r2, -⟩ := id X
  exact Run.via (Y.ldcInt X.ex r2 (mv (s := s.setVm vm0) r1 w) (g := mkF m pc Ls st) rfl (X.de hd)) k
theorem Run.ldcL (X : Sit Z a0 EL kx p l e R s m args below meth c own bytes maxL rt nm h0 ws sf T h locs cells slots) {index pc : Nat} {v : Int64} {Ls : Array Slot} {st : List Value} (w : (Cond.constantLong own index v).before a0 Z = true) (hd : decode bytes pc = .ok (.ldc2_w index, 3))
    (k : Run Z EL sv p e below s h0 ws Q kc ks T (mkF m (pc + 3) Ls (.long v :: st))) : Run Z EL sv p e below s h0 ws Q kc ks T (mkF m pc Ls st) := by
  obtain ⟨-, vm0, k0, Y, r1, r2, -⟩ := id X
  exact Run.via (Y.ldc2Long X.ex r2 (mv (s := s.setVm vm0) r1 w) (g := mkF m pc Ls st) rfl (X.de hd)) k
theorem Run.irem (X : Sit Z a0 EL kx p l e R s m args below meth c own bytes maxL rt nm h0 ws sf T h locs cells slots) {pc : Nat} {x y : Int32} {Ls : Array Slot} {st : List Value} (hd : decode bytes pc = .ok (.irem, 1)) (hy : y ≠ 0)
    (k : Run Z EL sv p e below s h0 ws Q kc ks T (mkF m (pc + 1) Ls (.int (x % y) :: st))) : Run Z EL sv p e below s h0 ws Q kc ks T (mkF m pc Ls (.int y :: .int x :: st)) := by
  obtain ⟨-, vm0, k0, Y, -⟩ := id X
  exact Run.via (fun t r => iremM Y X.ex (g := mkF m pc Ls (.int y :: .int x :: st)) rfl (X.de hd) rfl hy r) k
theorem Run.lswHit (X : Sit Z a0 EL kx p l e R s m args below meth c own bytes maxL rt nm h0 ws sf T h locs cells slots) {pc len : Nat} {k : Int32} {df : Int} {pairs : Array (Int × Int)} {Ls : Array Slot} {st : List Value} (hd : decode bytes pc = .ok (.lookupswitch df pairs, len)) (hso : (pairs.toList.zip (pairs.toList.drop 1)).all (fun (a, next) => a.1 < next.1) = true) {a off : Int} (hf : pairs.find? (·.1 == k.toInt) = some (a, off)) (ho : 0 ≤ (pc : Int) + off)
    (r : Run Z EL sv p e below s h0 ws Q kc ks T (mkF m ((pc : Int) + off).toNat Ls st)) : Run Z EL sv p e below s h0 ws Q kc ks T (mkF m pc Ls (.int k :: st)) := by
  obtain ⟨-, vm0, k0, Y, -⟩ := id X
  exact Run.via (fun t r => Y.lookupswitchHit X.ex (g := mkF m pc Ls (.int k :: st)) rfl rfl (X.de hd) hso hf ho t r) r
theorem Run.lswMiss (X : Sit Z a0 EL kx p l e R s m args below meth c own bytes maxL rt nm h0 ws sf T h locs cells slots) {pc len : Nat} {k : Int32} {df : Int} {pairs : Array (Int × Int)} {Ls : Array Slot} {st : List Value} (hd : decode bytes pc = .ok (.lookupswitch df pairs, len)) (hso : (pairs.toList.zip (pairs.toList.drop 1)).all (fun (a, next) => a.1 < next.1) = true) (hf : pairs.find? (·.1 == k.toInt) = none) (ho : 0 ≤ (pc : Int) + df)
    (r : Run Z EL sv p e below s h0 ws Q kc ks T (mkF m ((pc : Int) + df).toNat Ls st)) : Run Z EL sv p e below s h0 ws Q kc ks T (mkF m pc Ls (.int k :: st)) := by
  obtain ⟨-, vm0, k0, Y, -⟩ := id X
  exact Run.via (fun t r => Y.lookupswitchMiss X.ex (g := mkF m pc Ls (.int k :: st)) rfl rfl (X.de hd) hso hf ho t r) r
/-! arrays of chars or bytes -/
/-- the array b holds just these -/
def Arc (ty : FieldType) (Z : State) (h : Heap) (b : Addr) (cs : List Int32) : Prop := ∃ k, Arv Z h b k ty (Int32.ofNat cs.length) (cs.map Value.int) (.int 0) ∧ cs.length ≤ 4000
theorem n32' {n : Nat} (h : n ≤ 4000) : ¬ Int32.ofNat n < 0 ∧ (Int32.ofNat n).toNatClampNeg = n := by
  have e : (Int32.ofNat n).toInt = n := Int32.toInt_ofNat_small (by omega)
  refine ⟨fun q => ?_, ?_⟩
  · rw [Int32.lt_iff_toInt_lt, e] at q; have : (0 : Int32).toInt = 0 := rfl; omega
  · show (Int32.ofNat n).toInt.toNat = n
    rw [e]; simp
theorem Arc.keep {ty : FieldType} {h' : Heap} {wz : List Addr} {b : Addr} {cs : List Int32} (A : Arc ty Z h b cs) (K : Keep h h' wz) (q : b ∉ wz) : Arc ty Z h' b cs := by
  obtain ⟨k, A, r⟩ := A; exact ⟨k, A.keep K q, r⟩
theorem Arc.lt {ty : FieldType} {b : Addr} {cs : List Int32} (A : Arc ty Z h b cs) : @LT.lt Nat _ b h.size := by obtain ⟨k, A, r⟩ := A; exact A.lt
theorem getD_map (cs : List Int32) (i : Nat) : (cs.map Value.int).getD i (.int 0) = .int (cs.getD i 0) := by
  simp only [List.getD_eq_getElem?_getD, List.getElem?_map]; cases cs[i]? <;> rfl
theorem Run.newarr (X : Sit Z a0 EL kx p l e R s m args below meth c own bytes maxL rt nm h0 ws sf T h locs cells slots) {aty : ArrayType} {pc n cap : Nat} {j : Int32} {Ls : Array Slot} {st : List Value} (w : (Cond.arrayClass (newarray.typeOf aty)).before a0 Z = true) (hi : defaultValue (newarray.typeOf aty) = .int 0) (hd : decode bytes pc = .ok (.newarray aty, 2)) (hj : j = Int32.ofNat n) (hcap : n ≤ cap) (hn : cap ≤ 4000) (hc : cells + 1 ≤ R.cells) (hl : slots + cap ≤ R.slots)
    (k : ∀ (T' : State) (h' : Heap) (x : Addr), @Eq Nat x h.size → Sit Z a0 EL kx p l e R s m args below meth c own bytes maxL rt nm h0 ws (x :: sf) T' h' locs (cells + 1) (slots + cap) → Keep h h' [] → @LT.lt Nat _ x h'.size → Arc (newarray.typeOf aty) Z h' x (List.replicate n 0) → Run Z EL sv p e below s h0 ws Q kc ks T' (mkF m (pc + 2) Ls (.ref x :: st))) :
    Run Z EL sv p e below s h0 ws Q kc ks T (mkF m pc Ls (.int j :: st)) := by
  subst hj
  have hn' : n ≤ 4000 := Nat.le_trans hcap hn
  have q32 := n32' hn'
  obtain ⟨T', h', X', E, lt, A, q⟩ := X.grow (k := cells + 1) (n := slots + cap) (Q' := fun T' h' => h.size < h'.size ∧ Arc (newarray.typeOf aty) Z h' h.size (List.replicate n 0) ∧ ∀ t, Steps p.tables e below (T'.setTop (mkF m (pc + 2) Ls (.ref h.size :: st))) t → Steps p.tables e below (T.setTop (mkF m pc Ls (.int (Int32.ofNat n) :: st))) t) fun vm0 Y hZ ho => by
    obtain ⟨T', h', kA, Y', e', E, A, q⟩ := newP Y X.ex hZ w X.eh (g := mkF m pc Ls (.int (Int32.ofNat n) :: st)) rfl (X.de hd) rfl q32.1 (cap := cap) (by rw [q32.2]; exact hcap) (by omega) hc hl
    have V := Arv.new A q32.1
    rw [hi] at V
    refine ⟨T', h', Y', e', E, A.lt, A.lt, ⟨kA, ?_, by simpa using hn'⟩, q⟩
    have V2 := V.pad (vs' := (List.replicate n (0 : Int32)).map Value.int) fun i => by
      have := pad_rep [] (.int 0) n i
      simpa using this
    simpa using V2
  exact Run.via q (k T' h' _ rfl X' (extK E) lt A)
theorem idx_of {j : Int32} {i n : Nat} (hj : j = Int32.ofNat i) (hi : i < n) (hn : n ≤ 4000) : ¬ (j < 0 ∨ (Int32.ofNat n).toNatClampNeg ≤ j.toNatClampNeg) ∧ j.toNatClampNeg = i := by
  subst hj
  have a := n32' (n := i) (by omega)
  have b := n32' hn
  exact ⟨fun q => q.elim a.1 fun q => by rw [a.2, b.2] at q; omega, a.2⟩
theorem Arc.set {ty : FieldType} {h' : Heap} {b : Addr} {cs : List Int32} {j v' : Int32} {i : Nat} {kA : ClassId} {cl : Cell} (hlen : cs.length ≤ 4000) (A : Arr Z h b cl ty) (q1 : cl.cls = kA) (S : cl.slots.size = (Int32.ofNat cs.length).toNatClampNeg) (q3 : ¬ Int32.ofNat cs.length < 0) (H : RoadKit.Has cl (cs.map Value.int) (.int 0)) (G : ∀ i, i < cl.slots.size → fits ty ((cs.map Value.int).getD i (.int 0)) = true) (hv : fits ty (.int v') = true) (W : Wr h h' b j.toNatClampNeg (.int v')) (j2 : j.toNatClampNeg = i) (hi : i < cs.length) : Arc ty Z h' b (cs.set i v') := by
  have V' := Arv.set A q1 S q3 H G hv W i j2 (by simpa using hi)
  refine ⟨kA, ?_, by simpa using hlen⟩
  have e1 : (cs.map Value.int).set i (.int v') = (cs.set i v').map Value.int := by simp [List.map_set]
  rw [e1] at V'
  simpa using V'
theorem Run.castore (X : Sit Z a0 EL kx p l e R s m args below meth c own bytes maxL rt nm h0 ws sf T h locs cells slots) {pc i : Nat} {j v v' : Int32} {b : Addr} {cs : List Int32} {Ls : Array Slot} {st : List Value} (A : Arc .char Z h b cs) (hj : j = Int32.ofNat i) (hi : i < cs.length) (hv : nar .char v = v') (ha : b ∈ ws ∨ h0.size ≤ b) (hz : Z.heap.size ≤ b) (hd : decode bytes pc = .ok (.castore, 1))
    (k : ∀ (T' : State) (h' : Heap) (L : List Loc), Sit Z a0 EL kx p l e R s m args below meth c own bytes maxL rt nm h0 ws sf T' h' (locs ++ L) cells slots → Keep h h' [b] → h'.size = h.size → Arc .char Z h' b (cs.set i v') → Run Z EL sv p e below s h0 ws Q kc ks T' (mkF m (pc + 1) Ls st)) : Run Z EL sv p e below s h0 ws Q kc ks T (mkF m pc Ls (.int v :: .int j :: .ref b :: st)) := by
  obtain ⟨kA, V, hlen⟩ := A
  obtain ⟨cl, A, q1, S, q3, H, G⟩ := id V
  obtain ⟨j1, j2⟩ := idx_of hj hi hlen
  obtain ⟨T', h', L', X', K, W, q⟩ := X.go (k := cells) (n := slots) (wz := [b]) (Q' := fun T' h' _ => Wr h h' b j.toNatClampNeg (.int (nar .char v)) ∧ ∀ t, Steps p.tables e below (T'.setTop (mkF m (pc + 1) Ls st)) t → Steps p.tables e below (T.setTop (mkF m pc Ls (.int v :: .int j :: .ref b :: st))) t) (fun x hx => by cases List.mem_singleton.mp hx; exact ⟨ha, hz⟩) (fun vm0 al hs x hx => by cases List.mem_singleton.mp hx; exact Safe.arv al V (by decide)) fun vm0 Y hZ ho => by
    obtain ⟨T', h', Y', e', W, q⟩ := stC Y X.ex hZ X.eh A (j := j) (by rw [S]; exact j1) (g := mkF m pc Ls (.int v :: .int j :: .ref b :: st)) rfl rfl (X.de hd)
    exact ⟨T', h', _, Y', e', Keep.of_wr W, fun y hy => by cases List.mem_singleton.mp hy; exact hz, W, q⟩
  rw [hv] at W
  exact Run.via q (k T' h' L' X' K W.size (Arc.set hlen A q1 S q3 H G (by rw [← hv]; exact fits_nar_char _) W j2 hi))
theorem Run.bastore (X : Sit Z a0 EL kx p l e R s m args below meth c own bytes maxL rt nm h0 ws sf T h locs cells slots) {pc i : Nat} {j v v' : Int32} {b : Addr} {cs : List Int32} {Ls : Array Slot} {st : List Value} (A : Arc .byte Z h b cs) (hj : j = Int32.ofNat i) (hi : i < cs.length) (hv : nar .byte v = v') (ha : b ∈ ws ∨ h0.size ≤ b) (hz : Z.heap.size ≤ b) (hsf : b ∈ sf) (hd : decode bytes pc = .ok (.bastore, 1))
    (k : ∀ (T' : State) (h' : Heap) (L : List Loc), Sit Z a0 EL kx p l e R s m args below meth c own bytes maxL rt nm h0 ws sf T' h' (locs ++ L) cells slots → Keep h h' [b] → h'.size = h.size → Arc .byte Z h' b (cs.set i v') → Run Z EL sv p e below s h0 ws Q kc ks T' (mkF m (pc + 1) Ls st)) : Run Z EL sv p e below s h0 ws Q kc ks T (mkF m pc Ls (.int v :: .int j :: .ref b :: st)) := by
  obtain ⟨kA, V, hlen⟩ := A
  obtain ⟨cl, A, q1, S, q3, H, G⟩ := id V
  obtain ⟨j1, j2⟩ := idx_of hj hi hlen
  obtain ⟨T', h', L', X', K, W, q⟩ := X.go (k := cells) (n := slots) (wz := [b]) (Q' := fun T' h' _ => Wr h h' b j.toNatClampNeg (.int (nar .byte v)) ∧ ∀ t, Steps p.tables e below (T'.setTop (mkF m (pc + 1) Ls st)) t → Steps p.tables e below (T.setTop (mkF m pc Ls (.int v :: .int j :: .ref b :: st))) t) (fun x hx => by cases List.mem_singleton.mp hx; exact ⟨ha, hz⟩) (fun vm0 al hs x hx => by cases List.mem_singleton.mp hx; exact hs b hsf) fun vm0 Y hZ ho => by
    obtain ⟨T', h', Y', e', W, q⟩ := stB Y X.ex hZ X.eh A (j := j) (by rw [S]; exact j1) (g := mkF m pc Ls (.int v :: .int j :: .ref b :: st)) rfl rfl (X.de hd)
    exact ⟨T', h', _, Y', e', Keep.of_wr W, fun y hy => by cases List.mem_singleton.mp hy; exact hz, W, q⟩
  rw [hv] at W
  exact Run.via q (k T' h' L' X' K W.size (Arc.set hlen A q1 S q3 H G (by rw [← hv]; exact fits_nar_byte _) W j2 hi))
theorem Run.caload (X : Sit Z a0 EL kx p l e R s m args below meth c own bytes maxL rt nm h0 ws sf T h locs cells slots) {pc i : Nat} {j : Int32} {b : Addr} {cs : List Int32} {Ls : Array Slot} {st : List Value} (A : Arc .char Z h b cs) (hj : j = Int32.ofNat i) (hi : i < cs.length) (hd : decode bytes pc = .ok (.caload, 1))
    (k : Run Z EL sv p e below s h0 ws Q kc ks T (mkF m (pc + 1) Ls (.int (cs.getD i 0) :: st))) : Run Z EL sv p e below s h0 ws Q kc ks T (mkF m pc Ls (.int j :: .ref b :: st)) := by
  obtain ⟨kA, V, hlen⟩ := A
  obtain ⟨cl, A, q1, S, q3, H, G⟩ := V
  obtain ⟨j1, j2⟩ := idx_of hj hi hlen
  obtain ⟨-, vm0, k0, Y, r1, r2, -⟩ := id X
  exact Run.via (fun t r => Y.caload X.ex (j := j) (v := .int (cs.getD i 0)) (by rw [X.eh]; exact A.1) (State.isArrayOf_alike r1.alike A.2.1) A.2.2 (by rw [S]; exact j1) (by rw [j2, H i (by rw [S, (n32' hlen).2]; exact hi), getD_map]) (g := mkF m pc Ls (.int j :: .ref b :: st)) rfl rfl (X.de hd) t r) k
theorem Run.baload (X : Sit Z a0 EL kx p l e R s m args below meth c own bytes maxL rt nm h0 ws sf T h locs cells slots) {pc i : Nat} {j : Int32} {b : Addr} {cs : List Int32} {Ls : Array Slot} {st : List Value} (A : Arc .byte Z h b cs) (hj : j = Int32.ofNat i) (hi : i < cs.length) (hd : decode bytes pc = .ok (.baload, 1))
    (k : Run Z EL sv p e below s h0 ws Q kc ks T (mkF m (pc + 1) Ls (.int (cs.getD i 0) :: st))) : Run Z EL sv p e below s h0 ws Q kc ks T (mkF m pc Ls (.int j :: .ref b :: st)) := by
  obtain ⟨kA, V, hlen⟩ := A
  obtain ⟨cl, A, q1, S, q3, H, G⟩ := V
  obtain ⟨j1, j2⟩ := idx_of hj hi hlen
  obtain ⟨-, vm0, k0, Y, r1, r2, -⟩ := id X
  exact Run.via (fun t r => Y.baloadBytes X.ex (j := j) (v := .int (cs.getD i 0)) (by rw [X.eh]; exact A.1) (State.isArrayOf_alike r1.alike A.2.1) A.2.2 (by rw [S]; exact j1) (by rw [j2, H i (by rw [S, (n32' hlen).2]; exact hi), getD_map]) (g := mkF m pc Ls (.int j :: .ref b :: st)) rfl rfl (X.de hd) t r) k
theorem Run.alen {ty : FieldType} (X : Sit Z a0 EL kx p l e R s m args below meth c own bytes maxL rt nm h0 ws sf T h locs cells slots) {pc : Nat} {b : Addr} {cs : List Int32} {Ls : Array Slot} {st : List Value} (A : Arc ty Z h b cs) (hd : decode bytes pc = .ok (.arraylength, 1))
    (k : Run Z EL sv p e below s h0 ws Q kc ks T (mkF m (pc + 1) Ls (.int (Int32.ofNat cs.length) :: st))) : Run Z EL sv p e below s h0 ws Q kc ks T (mkF m pc Ls (.ref b :: st)) := by
  obtain ⟨kA, V, hlen⟩ := A
  obtain ⟨cl, A, q1, S, q3, H, G⟩ := V
  obtain ⟨-, vm0, k0, Y, r1, r2, -⟩ := id X
  refine Run.via (fun t r => Y.arraylength X.ex (by rw [X.eh]; exact A.1) (State.isArrayOf_alike r1.alike A.2.1) (g := mkF m pc Ls (.ref b :: st)) rfl rfl (X.de hd) t ?_) k
  rw [len_of S q3]
  exact r
/-! calls -/
theorem Con.payS {y : MethodName} {rm : Room} {as' : Array Value} {wz sz : List Addr} {Q' : Option Value → Heap → Prop} {by' : ByteArray} {ml : Nat} {rt' : Option FieldType} {len W : Nat} {vm0 : Vm} {su : Option Value → Heap → Addr → Prop} {kx' : Bool} (C : Con l Z a0 EL su kx' y by' ml rt' rm wz sz as' h Q') (hEL : EW Z a0 EL) (hZ : Z.Warmed39 vm0) (H : CHv Z EL vm0 h) (hsz : ∀ x ∈ sz, x < h.size ∧ Safe Z EL vm0 h x) (hkx : kx' = true → vm0.MethodsKnown ∧ vm0.FramesKnown below) (wc : (Cond.code y by' ml rt').before a0 Z = true) (wz' : (Cond.initialized y.cls).before a0 Z = true) (hf : rm.frames + 1 ≤ R.frames) (hl : W + (ml + 11) + rm.locals ≤ R.locals) :
    BackS l R p e below (s.setVm vm0) args y len W (fun A a => a = as' ∧ A.U.heap = h ∧ A.cells + rm.cells ≤ R.cells ∧ A.slots + rm.slots ≤ R.slots)
      (fun A _ v B => ∃ L, (Fr Z.heap.size L ∧ Keep h B.U.heap wz ∧ Q' v B.U.heap) ∧ B.locs = A.locs ++ L ∧ B.cells = A.cells + rm.cells ∧ B.slots = A.slots + rm.slots ∧ CHr Z EL vm0 h B.U.vm B.U.heap ∧ (NW = true → (s.setVm vm0).WarmedH B.U.vm) ∧ (∀ x, su v B.U.heap x → x < B.U.heap.size ∧ Safe Z EL B.U.vm B.U.heap x)) :=
  BackS.of_freeWG (bytes := by') (maxL := ml) (ret := rt') (E := fun _ first o t L k n => k = rm.cells ∧ n = rm.slots ∧ (∃ v, o = .returned v ∧ (Fr Z.heap.size L ∧ Keep h t.heap wz ∧ Q' v t.heap) ∧ (∀ x, su v t.heap x → x < t.heap.size ∧ Safe Z EL t.vm t.heap x)) ∧ CHr Z EL first.vm h t.vm t.heap ∧ (NW = true → first.WarmedH t.vm)) (C hEL []) hf hl
    (fun m meth c A a Y hp => have hU : Z.Warmed39 A.U.vm := wtrans (s := s.setVm vm0) hZ Y.warmed
      ⟨by show (Cond.and _ .tt).before a A.U = true; rw [Cond.before_and, mv hU wc]; rfl, mv hU wc, mv hU wz', hp.2.2.1, hp.2.2.2⟩)
    (fun m meth c A a g mk Y hp => ⟨hp.1, wtrans (s := s.setVm vm0) hZ Y.warmed, hp.2.1, (CHv.at Y hZ hEL H).1, fun x hx => ⟨(hsz x hx).1, (CHv.at Y hZ hEL H).safe (hsz x hx).1 (hsz x hx).2⟩⟩) (fun m meth c A a g mk Y _ hg z => known_frames (s := s.setVm vm0) Y hg (hkx z).1 (hkx z).2)
    (fun _ _ _ _ ⟨v, L, g1, g2, g3, g4, g5, g6⟩ => ⟨L, _, _, g4, rfl, rfl, ⟨v, g1, g2, g6⟩, g3, g5⟩)
    (fun m meth c A a g mk v t L k n Y hp _ _ ⟨e1, e2, ⟨v', e3, e4, e7⟩, e5, e6⟩ => by
      cases e3; subst e1 e2
      exact ⟨L, e4, rfl, rfl, rfl, (CHv.at Y hZ hEL H).trans e5, fun z => State.WarmedH.trans (t := A.U) Y.warmed (e6 z), e7⟩)
/-- what a call by a contract leaves, whichever instruction made it -/
theorem Run.called (X : Sit Z a0 EL kx p l e R s m args below meth c own bytes maxL rt nm h0 ws sf T h locs cells slots) {y : MethodName} {by' : ByteArray} {ml : Nat} {rt' : Option FieldType} {rm : Room} {wz sz : List Addr} {Q' : Option Value → Heap → Prop} {len pc W : Nat} {Ls : Array Slot} {st rest : List Value} {as' : Array Value}
    {su : Option Value → Heap → Addr → Prop} {kx' : Bool} (C : Con l Z a0 EL su kx' y by' ml rt' rm wz sz as' h Q') (hkx' : kx' = true → kx = true) (w3 : (Cond.initialized y.cls).before a0 Z = true) (w4 : (Cond.code y by' ml rt').before a0 Z = true) (hf : rm.frames + 1 ≤ R.frames) (hl : W + (ml + 11) + rm.locals ≤ R.locals) (hwz : ∀ x ∈ wz, (x ∈ ws ∨ h0.size ≤ x) ∧ Z.heap.size ≤ x) (hsz : ∀ x ∈ sz, x ∈ sf)
    (q : ∀ vm0, Stand p l e R (s.setVm vm0) m args below meth c T locs cells slots → Z.Warmed39 (s.setVm vm0).vm → (s.setVm vm0).vm.findClass own = some m.cls →
      ∀ {Post : Pt → Array Value → Option Value → Pt → Prop}, BackS l R p e below (s.setVm vm0) args y len W (fun A a => a = as' ∧ A.U.heap = h ∧ A.cells + rm.cells ≤ R.cells ∧ A.slots + rm.slots ≤ R.slots) Post → ∃ (v : Option Value) (vm₁ : Vm) (B : Pt), (s.setVm vm0).WarmedH vm₁ ∧ Stand p l e R ((s.setVm vm0).setVm B.U.vm) m args below meth c B.U B.locs B.cells B.slots ∧ (s.setVm vm0).Since B.U.vm B.U.heap.size ∧ T.heap.size ≤ B.U.heap.size ∧ Post ⟨T.setVm vm₁, locs, cells, slots⟩ as' v B ∧ Steps p.tables e below (T.setTop (mkF m pc Ls st)) (B.U.setTop (mkF m (pc + len) Ls (v.toList ++ rest))))
    (k : ∀ (v : Option Value) (T' : State) (h' : Heap) (L : List Loc), Q' v h' → Sit Z a0 EL kx p l e R s m args below meth c own bytes maxL rt nm h0 ws sf T' h' (locs ++ L) (cells + rm.cells) (slots + rm.slots) → (∀ x, su v h' x → Sit Z a0 EL kx p l e R s m args below meth c own bytes maxL rt nm h0 ws (x :: sf) T' h' (locs ++ L) (cells + rm.cells) (slots + rm.slots)) → Keep h h' wz → Run Z EL sv p e below s h0 ws Q kc ks T' (mkF m (pc + len) Ls (v.toList ++ rest))) : Run Z EL sv p e below s h0 ws Q kc ks T (mkF m pc Ls st) := by
  obtain ⟨T', h', L, X', K, v, q3, hsf', sp⟩ := X.reb (k := cells + rm.cells) (n := slots + rm.slots) (wz := wz) (Q' := fun T' h' L => ∃ v, Q' v h' ∧ (∀ x, su v h' x → x < h'.size ∧ Safe Z EL T'.vm h' x) ∧ Steps p.tables e below (T.setTop (mkF m pc Ls st)) (T'.setTop (mkF m (pc + len) Ls (v.toList ++ rest)))) hwz fun vm0 k0 Y hZ ho hS hk H hs => by
    obtain ⟨v, vm₁, ⟨T', L', k', n'⟩, -, Y', S', hT, ⟨Lc, ⟨q1, q2, q3⟩, l1, y1, z1, C1, n1, f1⟩, sp⟩ := q vm0 Y hZ ho (C.payS (W := W) X.ew hZ H (fun x hx => hs x (hsz x hx)) (fun z => ⟨Vm.MethodsKnown.alikeC hS.1.alike (X.kno (hkx' z)).1, Vm.FramesKnown.alikeC hS.1.alike (X.kno (hkx' z)).2.1⟩) w4 w3 hf hl)
    dsimp only [Pt.U, Pt.locs, Pt.cells, Pt.slots] at Y' S' hT l1 y1 z1 sp q1 q2 q3 C1 n1 f1
    subst l1 y1 z1
    exact ⟨T', T'.heap, Lc, T'.heap.size, Y', rfl, q2, q1, State.Warmed39.trans (t := s.setVm vm0) hZ S'.1, (S'.1.alike.findClass _ _).trans ho, hS.trans S' (Nat.le_trans hk (by rw [X.eh] at hT; exact hT)), Nat.le_refl _, C1, n1, v, q3, f1, sp⟩
  exact Run.on sp (k v T' h' L q3 (X' sf fun x hx => Or.inl hx) (fun x hx => X' (x :: sf) fun y hy => (List.mem_cons.mp hy).elim (fun z => Or.inr (z ▸ hsf' x hx)) Or.inl) K)
theorem Run.callS (X : Sit Z a0 EL kx p l e R s m args below meth c own bytes maxL rt nm h0 ws sf T h locs cells slots) {y : MethodName} {by' : ByteArray} {ml : Nat} {rt' : Option FieldType} {rm : Room} {wz sz : List Addr} {Q' : Option Value → Heap → Prop} {index pc W : Nat} {Ls : Array Slot} {st argsL rest : List Value} {ps : List FieldType} {rr : Option FieldType}
    {su : Option Value → Heap → Addr → Prop} {kx' : Bool} (C : Con l Z a0 EL su kx' y by' ml rt' rm wz sz argsL.toArray h Q') (w1 : (Cond.methodLink own index y).before a0 Z = true) (w2 : (Cond.static y).before a0 Z = true) (w3 : (Cond.initialized y.cls).before a0 Z = true) (w4 : (Cond.code y by' ml rt').before a0 Z = true) (hy : y.cls ≠ "java/lang/invoke/MethodHandle" ∧ y.cls ≠ "java/lang/invoke/VarHandle")
    (hds : parseMethodDescriptor y.desc = some ⟨ps, rr⟩) (hln : argsL.length = ps.length) (hst : st = argsL.reverse ++ rest) (hW : (rest.map fun v => v.category).sum ≤ W) (hsz : Ls.size = maxL) (hd : decode bytes pc = .ok (.invokestatic index, 3)) (hf : rm.frames + 1 ≤ R.frames) (hl : W + (ml + 11) + rm.locals ≤ R.locals) (hc : cells + rm.cells ≤ R.cells) (hs : slots + rm.slots ≤ R.slots) (hwz : ∀ x ∈ wz, (x ∈ ws ∨ h0.size ≤ x) ∧ Z.heap.size ≤ x) (hsf : ∀ x ∈ sz, x ∈ sf)
    (k : ∀ (v : Option Value) (T' : State) (h' : Heap) (L : List Loc), Q' v h' → Sit Z a0 EL kx p l e R s m args below meth c own bytes maxL rt nm h0 ws sf T' h' (locs ++ L) (cells + rm.cells) (slots + rm.slots) → (∀ x, su v h' x → Sit Z a0 EL kx p l e R s m args below meth c own bytes maxL rt nm h0 ws (x :: sf) T' h' (locs ++ L) (cells + rm.cells) (slots + rm.slots)) → Keep h h' wz → Run Z EL sv p e below s h0 ws Q kc ks T' (mkF m (pc + 3) Ls (v.toList ++ rest))) (hkx' : kx' = true → kx = true := by first | exact id | (intro h; cases h)) : Run Z EL sv p e below s h0 ws Q kc ks T (mkF m pc Ls st) :=
  Run.called X (len := 3) (W := W) C hkx' w3 w4 hf hl hwz hsf (fun vm0 Y hZ ho _ bk => callSS Y X.ex (y := y) ho (mv hZ w1) (mv hZ w2) (mv hZ w3) (mv hZ w4) hy bk (g := mkF m pc Ls st) rfl (hsz.trans X.ml.symm) (argsL := argsL) (rest := rest) (lenOf hds hln) hst (by show 2 * 0 + _ ≤ _; omega) (X.de hd) (fun _ _ => ⟨rfl, X.eh, hc, hs⟩)) k
theorem Run.callN (X : Sit Z a0 EL kx p l e R s m args below meth c own bytes maxL rt nm h0 ws sf T h locs cells slots) {y : MethodName} {by' : ByteArray} {ml : Nat} {rm : Room} {wz sz : List Addr} {Q' : Option Value → Heap → Prop} {index pc W : Nat} {Ls : Array Slot} {a : Addr} {st argsL rest : List Value} {ps : List FieldType} {rr : Option FieldType}
    {su : Option Value → Heap → Addr → Prop} {kx' : Bool} (C : Con l Z a0 EL su kx' y by' ml none rm wz sz (.ref a :: argsL).toArray h Q') (hi : y.name = "<init>") (w1 : (Cond.methodLink own index y).before a0 Z = true) (w2 : (Cond.instanceMethod y).before a0 Z = true) (w3 : (Cond.initialized y.cls).before a0 Z = true) (w4 : (Cond.code y by' ml none).before a0 Z = true) (hy : y.cls ≠ "java/lang/invoke/MethodHandle" ∧ y.cls ≠ "java/lang/invoke/VarHandle")
    (hds : parseMethodDescriptor y.desc = some ⟨ps, rr⟩) (hln : argsL.length = ps.length) (hst : st = argsL.reverse ++ .ref a :: rest) (hW : (rest.map fun v => v.category).sum ≤ W) (hsz : Ls.size = maxL) (hd : decode bytes pc = .ok (.invokespecial index, 3)) (hf : rm.frames + 1 ≤ R.frames) (hl : W + (ml + 11) + rm.locals ≤ R.locals) (hc : cells + rm.cells ≤ R.cells) (hs : slots + rm.slots ≤ R.slots) (hwz : ∀ x ∈ wz, (x ∈ ws ∨ h0.size ≤ x) ∧ Z.heap.size ≤ x) (hsf : ∀ x ∈ sz, x ∈ sf)
    (k : ∀ (v : Option Value) (T' : State) (h' : Heap) (L : List Loc), Q' v h' → Sit Z a0 EL kx p l e R s m args below meth c own bytes maxL rt nm h0 ws sf T' h' (locs ++ L) (cells + rm.cells) (slots + rm.slots) → (∀ x, su v h' x → Sit Z a0 EL kx p l e R s m args below meth c own bytes maxL rt nm h0 ws (x :: sf) T' h' (locs ++ L) (cells + rm.cells) (slots + rm.slots)) → Keep h h' wz → Run Z EL sv p e below s h0 ws Q kc ks T' (mkF m (pc + 3) Ls (v.toList ++ rest))) (hkx' : kx' = true → kx = true := by first | exact id | (intro h; cases h)) : Run Z EL sv p e below s h0 ws Q kc ks T (mkF m pc Ls st) :=
  Run.called X (len := 3) (W := W) C hkx' w3 w4 hf hl hwz hsf (fun vm0 Y hZ ho _ bk => Y.specialBackS X.ex (y := y) hi ho (mv hZ w1) (mv hZ w2) (mv hZ w4) hy bk (g := mkF m pc Ls st) rfl (hsz.trans X.ml.symm) (Steps.refl _) (a := a) (argsL := argsL) (rest := rest) (lenOf hds hln) hst (by show 2 * 0 + _ ≤ _; omega) (X.de hd) (fun _ _ => ⟨rfl, X.eh, hc, hs⟩)) k
theorem Run.callV (X : Sit Z a0 EL kx p l e R s m args below meth c own bytes maxL rt nm h0 ws sf T h locs cells slots) {y : MethodName} {by' : ByteArray} {ml : Nat} {rt' : Option FieldType} {rm : Room} {wz sz : List Addr} {Q' : Option Value → Heap → Prop} {index pc W : Nat} {Ls : Array Slot} {a : Addr} {cls : String} {st argsL rest : List Value} {ps : List FieldType} {rr : Option FieldType}
    {su : Option Value → Heap → Addr → Prop} {kx' : Bool} (C : Con l Z a0 EL su kx' y by' ml rt' rm wz sz (.ref a :: argsL).toArray h Q') (E : Exa Z h a cls) (w1 : (Cond.methodLink own index y).before a0 Z = true) (wd : (Cond.declares y).before a0 Z = true) (w2 : (Cond.instanceMethod y).before a0 Z = true) (wl : (Cond.selects cls y y).before a0 Z = true) (w3 : (Cond.initialized y.cls).before a0 Z = true) (w4 : (Cond.code y by' ml rt').before a0 Z = true) (hy : y.cls ≠ "java/lang/invoke/MethodHandle" ∧ y.cls ≠ "java/lang/invoke/VarHandle")
    (hds : parseMethodDescriptor y.desc = some ⟨ps, rr⟩) (hln : argsL.length = ps.length) (hst : st = argsL.reverse ++ .ref a :: rest) (hW : (rest.map fun v => v.category).sum ≤ W) (hsz : Ls.size = maxL) (hd : decode bytes pc = .ok (.invokevirtual index, 3)) (hf : rm.frames + 1 ≤ R.frames) (hl : W + (ml + 11) + rm.locals ≤ R.locals) (hc : cells + rm.cells ≤ R.cells) (hs : slots + rm.slots ≤ R.slots) (hwz : ∀ x ∈ wz, (x ∈ ws ∨ h0.size ≤ x) ∧ Z.heap.size ≤ x) (hsf : ∀ x ∈ sz, x ∈ sf)
    (k : ∀ (v : Option Value) (T' : State) (h' : Heap) (L : List Loc), Q' v h' → Sit Z a0 EL kx p l e R s m args below meth c own bytes maxL rt nm h0 ws sf T' h' (locs ++ L) (cells + rm.cells) (slots + rm.slots) → (∀ x, su v h' x → Sit Z a0 EL kx p l e R s m args below meth c own bytes maxL rt nm h0 ws (x :: sf) T' h' (locs ++ L) (cells + rm.cells) (slots + rm.slots)) → Keep h h' wz → Run Z EL sv p e below s h0 ws Q kc ks T' (mkF m (pc + 3) Ls (v.toList ++ rest))) (hkx' : kx' = true → kx = true := by first | exact id | (intro h; cases h)) : Run Z EL sv p e below s h0 ws Q kc ks T (mkF m pc Ls st) :=
  Run.called X (len := 3) (W := W) C hkx' w3 w4 hf hl hwz hsf (fun vm0 Y hZ ho _ bk => by
    obtain ⟨cq, kq, qa, qb, qc⟩ := isOf (s := s.setVm vm0) hZ X.eh E
    exact Y.virtualBackS X.ex (y := y) (z := y) ho (mv hZ w1) (mv hZ wd) (notFace_of_selects (args := #[]) (mv hZ wl)) (mv hZ wl) (mv hZ w2) hy bk qa qc (g := mkF m pc Ls st) rfl (hsz.trans X.ml.symm) (Steps.refl _) (argsL := argsL) (rest := rest) (lenOf hds hln) hst (by show 2 * 0 + _ ≤ _; omega) (X.de hd) (fun _ _ => ⟨rfl, X.eh, hc, hs⟩)) k
theorem Run.callI (X : Sit Z a0 EL kx p l e R s m args below meth c own bytes maxL rt nm h0 ws sf T h locs cells slots) {xi y : MethodName} {by' : ByteArray} {ml : Nat} {rt' : Option FieldType} {rm : Room} {wz sz : List Addr} {Q' : Option Value → Heap → Prop} {index count pc W : Nat} {Ls : Array Slot} {a : Addr} {cls : String} {st argsL rest : List Value} {ps : List FieldType} {rr : Option FieldType}
    {su : Option Value → Heap → Addr → Prop} {kx' : Bool} (C : Con l Z a0 EL su kx' y by' ml rt' rm wz sz (.ref a :: argsL).toArray h Q') (E : Exa Z h a cls) (w1 : (Cond.methodLink own index xi).before a0 Z = true) (wd : (Cond.declares xi).before a0 Z = true) (wf : (Cond.interfaceMethod xi.cls xi.cls xi.name xi.desc).before a0 Z = true) (hfa : ((Cond.interfaceMethod xi.cls xi.cls xi.name xi.desc).onTables && (Cond.interfaceMethod xi.cls xi.cls xi.name xi.desc).keepsFace) = true) (wl : (Cond.selects cls xi y).before a0 Z = true) (w2 : (Cond.instanceMethod y).before a0 Z = true) (wp : (Cond.publicMethod y).before a0 Z = true) (wu : (Cond.unhidden cls xi.name xi.desc).before a0 Z = true) (wc : (Cond.castable cls xi.cls).before a0 Z = true) (w3 : (Cond.initialized y.cls).before a0 Z = true) (w4 : (Cond.code y by' ml rt').before a0 Z = true) (hy : xi.cls ≠ "java/lang/invoke/MethodHandle" ∧ xi.cls ≠ "java/lang/invoke/VarHandle")
    (hds : parseMethodDescriptor xi.desc = some ⟨ps, rr⟩) (hln : argsL.length = ps.length) (hst : st = argsL.reverse ++ .ref a :: rest) (hW : (rest.map fun v => v.category).sum ≤ W) (hsz : Ls.size = maxL) (hd : decode bytes pc = .ok (.invokeinterface index count, 5)) (hf : rm.frames + 1 ≤ R.frames) (hl : W + (ml + 11) + rm.locals ≤ R.locals) (hc : cells + rm.cells ≤ R.cells) (hs : slots + rm.slots ≤ R.slots) (hwz : ∀ x ∈ wz, (x ∈ ws ∨ h0.size ≤ x) ∧ Z.heap.size ≤ x) (hsf : ∀ x ∈ sz, x ∈ sf)
    (k : ∀ (v : Option Value) (T' : State) (h' : Heap) (L : List Loc), Q' v h' → Sit Z a0 EL kx p l e R s m args below meth c own bytes maxL rt nm h0 ws sf T' h' (locs ++ L) (cells + rm.cells) (slots + rm.slots) → (∀ x, su v h' x → Sit Z a0 EL kx p l e R s m args below meth c own bytes maxL rt nm h0 ws (x :: sf) T' h' (locs ++ L) (cells + rm.cells) (slots + rm.slots)) → Keep h h' wz → Run Z EL sv p e below s h0 ws Q kc ks T' (mkF m (pc + 5) Ls (v.toList ++ rest))) (hkx' : kx' = true → kx = true := by first | exact id | (intro h; cases h)) : Run Z EL sv p e below s h0 ws Q kc ks T (mkF m pc Ls st) :=
  Run.called X (len := 5) (W := W) C hkx' w3 w4 hf hl hwz hsf (fun vm0 Y hZ ho _ bk => by
    obtain ⟨cq, kq, qa, qb, qc⟩ := isOf (s := s.setVm vm0) hZ X.eh E
    exact Y.interfaceBackS X.ex (xi := xi) (y := y) ho (mv hZ w1) (mv hZ wd) (mv hZ wf hfa) (mv hZ wl) (mv hZ w2) (mv hZ wp) (mv hZ wu) (mv hZ wc) hy bk qa qb qc (g := mkF m pc Ls st) rfl (hsz.trans X.ml.symm) (Steps.refl _) (argsL := argsL) (rest := rest) (lenOf hds hln) hst (by show 2 * 0 + _ ≤ _; omega) (X.de hd) (fun _ _ => ⟨rfl, X.eh, hc, hs⟩)) k
end Pre
end Jvm.Pilot.@@N@@
-- part str
namespace Jvm.Pilot.@@N@@
open Jvm Jvm.ClassFile Sem Op Lib Jvm.Free Jvm.Stand Jvm.LawKit Jvm.RoadKit Bundle Jvm.Pilot.@@N@@.Jvm.D
section Strs
variable {Z : State} {a0 : Array Value} {EL : List (String × Nat)} {sv : Option Value → Heap → Addr → Prop} {kx : Bool} {p : Program} {l : Launch} {e : Env} {R : Room} {s : State} {m : MethodId} {args : Array Value} {below : List Frame} {meth : Method} {c : Code} {own : String} {bytes : ByteArray} {maxL : Nat} {rt : Option FieldType} {nm : String} {h0 : Heap} {ws sf : List Addr} {T : State} {h h' : Heap} {locs : List Loc} {cells slots : Nat} {Q : Option Value → Heap → Prop} {kc ks : Nat} {a : Addr} {cs : List Int32}
/-- the String a spells cs -/
def Str (Z : State) (h : Heap) (a : Addr) (cs : List Int32) : Prop :=
  Exa Z h a "java/lang/String" ∧ ∃ (t : Addr) (kb : ClassId) (cd N2 : Int32) (vs : List Value), Fld Z h a "java/lang/String" "value" "[B" (.ref t) ∧ Fld Z h a "java/lang/String" "coder" "B" (.int cd) ∧ Arv Z h t kb .byte N2 vs (.int 0) ∧ StrChars.Road.CodA cs cd N2 vs ∧ (∀ c ∈ cs, ¬ c < 0 ∧ ¬ (65535 : Int32) < c) ∧ cs.length ≤ 4000
theorem Str.keep (S : Str Z h a cs) (K : Keep h h' []) : Str Z h' a cs := by
  obtain ⟨E, t, kb, cd, N2, vs, V, C, A, r⟩ := S
  exact ⟨E.keep K, t, kb, cd, N2, vs, V.keep K nin0, C.keep K nin0, A.keep K nin0, r⟩
theorem Str.lt (S : Str Z h a cs) : @LT.lt Nat _ a h.size := S.1.lt
/-- a String as 'new' leaves it -/
def Raw (Z : State) (h : Heap) (a : Addr) : Prop := Exa Z h a "java/lang/String" ∧ Fld Z h a "java/lang/String" "value" "[B" .null ∧ Fld Z h a "java/lang/String" "coder" "B" (.int 0)
theorem Raw.keep {wz : List Addr} (S : Raw Z h a) (K : Keep h h' wz) (q : a ∉ wz) : Raw Z h' a := ⟨S.1.keep K, S.2.1.keep K q, S.2.2.keep K q⟩
/-- the JDK's statics -/
def Sets (Z : State) : Prop := ∃ (z : Int32) (fm : Value), Sta Z Z.heap "java/lang/String" "COMPACT_STRINGS" "Z" (.int z) ∧ ¬ z = 0 ∧ Sta Z Z.heap "jdk/internal/util/Preconditions" "SIOOBE_FORMATTER" "Ljava/util/function/BiFunction;" fm ∧ fm.isRef = true
theorem up (cs : List Int32) (h : ∀ c ∈ cs, ¬ c < 0 ∧ ¬ (255 : Int32) < c) : ∀ c ∈ cs, ¬ c < 0 ∧ ¬ (65535 : Int32) < c := fun c hc => ⟨(h c hc).1, fun q => (h c hc).2 (by rw [Int32.lt_iff_toInt_lt] at q ⊢; have e1 : (65535 : Int32).toInt = 65535 := rfl; have e2 : (255 : Int32).toInt = 255 := rfl; omega)⟩
theorem hwsV (hw : ∀ d ∈ tables_1, d.before a0 Z = true) : ∀ d ∈ StrChars.Road.words, d.before a0 Z = true := fun d hd => hw d ((by decide +kernel : ∀ d ∈ StrChars.Road.words, d ∈ tables_1) d hd)
/-- new String(char[]): the constructor's call -/
theorem Run.initStr (hw : ∀ d ∈ tables_1, d.before a0 Z = true) (hS : Sets Z) (X : Sit Z a0 EL kx p l e R s m args below meth c own bytes maxL rt nm h0 ws sf T h locs cells slots) {x b : Addr} {index pc W : Nat} {Ls : Array Slot} {rest : List Value} (G : Raw Z h x) (A : Arc .char Z h b cs) (hcs : ∀ c ∈ cs, ¬ c < 0 ∧ ¬ (255 : Int32) < c) (h1 : 0 < cs.length)
    (w1 : (Cond.methodLink own index (⟨"java/lang/String", "<init>", "([C)V"⟩ : MethodName)).before a0 Z = true) (w2 : (Cond.instanceMethod (⟨"java/lang/String", "<init>", "([C)V"⟩ : MethodName)).before a0 Z = true) (wi : (Cond.instantiable "java/lang/String" 4).before a0 Z = true) (hd : decode bytes pc = .ok (.invokespecial index, 3)) (hsz : Ls.size = maxL) (hx : x ∈ ws ∨ h0.size ≤ x) (hz : Z.heap.size ≤ x) (hsf : x ∈ sf)
    (hW : (rest.map fun v => v.category).sum ≤ W) (hf : 4 ≤ R.frames) (hl : W + 65 ≤ R.locals) (hc : cells + 1 ≤ R.cells) (hs : slots + cs.length ≤ R.slots)
    (k : ∀ (T' : State) (h' : Heap) (L : List Loc), Sit Z a0 EL kx p l e R s m args below meth c own bytes maxL rt nm h0 ws sf T' h' (locs ++ L) (cells + 1) (slots + cs.length) → Keep h h' [x] → Str Z h' x cs → Run Z EL sv p e below s h0 ws Q kc ks T' (mkF m (pc + 3) Ls rest)) : Run Z EL sv p e below s h0 ws Q kc ks T (mkF m pc Ls (.ref b :: .ref x :: rest)) := by
  obtain ⟨zz, fm, S1, S2, S3, S4⟩ := hS
  obtain ⟨kA, V, hlen⟩ := A
  have wc := hwsV hw _ (List.mem_cons_self ..)
  obtain ⟨T', h', L', X', K, S, sp⟩ := X.go (k := cells + 1) (n := slots + cs.length) (wz := [x]) (Q' := fun T' h' _ => Str Z h' x cs ∧ Steps p.tables e below (T.setTop (mkF m pc Ls (.ref b :: .ref x :: rest))) (T'.setTop (mkF m (pc + 3) Ls rest))) (fun y hy => by cases List.mem_singleton.mp hy; exact ⟨hx, hz⟩) (fun vm0 al hs y hy => by cases List.mem_singleton.mp hy; exact hs x hsf) fun vm0 Y hZ ho => by
    obtain ⟨v, _, ⟨T', L', k', n'⟩, -, Y', ⟨Lc, ⟨q1, q2, q3, q4, q5, t, kb, q6, q7, q8, q9, q10⟩, l1, y1, z1⟩, sp⟩ := Y.specialBack X.ex (y := (⟨"java/lang/String", "<init>", "([C)V"⟩ : MethodName)) rfl ho (mv hZ w1) (mv hZ w2) (mv hZ wc) (by decide) (StrChars.Road.backV (W := W) hZ (hwsV hw) (kI := 4) wi (cs := cs) (bs := cs.map fun c => c.toInt8.toInt32) (n := cs.length) hz X.old.1 G.1 G.2.1 G.2.2 V (S1.ext X.old) S2 rfl rfl h1 hlen hcs rfl hf hl) (g := mkF m pc Ls (.ref b :: .ref x :: rest)) rfl (hsz.trans X.ml.symm) (Steps.refl _) (a := x) (argsL := [.ref b]) (rest := rest) (lenOf (ps := [.array .char]) (r := none) (by decide +kernel) rfl) rfl (by show 2 * 0 + _ ≤ _; omega) (X.de hd) (fun _ _ => ⟨rfl, X.eh, hc, hs⟩)
    dsimp only [Pt.U, Pt.locs, Pt.cells, Pt.slots] at Y' l1 y1 z1 sp q1 q2 q3 q4 q5 q6 q7 q8 q9 q10
    subst l1 y1 z1 q1
    exact ⟨T', T'.heap, Lc, Y', rfl, q3, q2, ⟨q4, t, kb, 0, _, _, q9, q5, q10, StrChars.Road.codOf rfl fun c hc => (hcs c hc).2, up _ hcs, hlen⟩, sp⟩
  exact Run.on sp (k T' h' L' X' K S)
theorem nar_i2c (x : Int32) : nar .char (x.toUInt32.toUInt16.toUInt32.toInt32) = x.toUInt32.toUInt16.toUInt32.toInt32 := by simp only [nar, UInt32.toUInt32_toInt32, UInt16.toUInt16_toUInt32]
theorem and255 (x : Int32) : ¬ ((x &&& (255 : Int32)).toUInt32.toUInt16.toUInt32.toInt32) < 0 ∧ ¬ (255 : Int32) < ((x &&& (255 : Int32)).toUInt32.toUInt16.toUInt32.toInt32) := by
  have t : ∀ k : Fin 256, ¬ ((Int32.ofNat k.val).toUInt32.toUInt16.toUInt32.toInt32) < 0 ∧ ¬ (255 : Int32) < ((Int32.ofNat k.val).toUInt32.toUInt16.toUInt32.toInt32) := by decide +kernel
  have h : (x &&& 255).toBitVec.toNat < 256 := by
    simp only [Int32.toBitVec_and, BitVec.toNat_and]
    exact Nat.lt_succ_of_le Nat.and_le_right
  have e : (x &&& 255) = Int32.ofNat (x &&& 255).toBitVec.toNat := by
    apply Int32.toBitVec_inj.mp
    show _ = BitVec.ofNat 32 _
    rw [BitVec.ofNat_toNat]; simp
  rw [e]
  exact t ⟨_, h⟩
/-- a char, that it is one -/
theorem i2c_rng (x : Int32) : ¬ (x.toUInt32.toUInt16.toUInt32.toInt32) < 0 ∧ ¬ (65535 : Int32) < (x.toUInt32.toUInt16.toUInt32.toInt32) := by
  obtain ⟨-, q1, q2⟩ := c_i2c x
  constructor
  · intro q; rw [Int32.lt_iff_toInt_lt] at q; have : (0 : Int32).toInt = 0 := rfl; omega
  · intro q; rw [Int32.lt_iff_toInt_lt] at q; have : (65535 : Int32).toInt = 65535 := rfl; omega
theorem nar_char {c : Int32} (h : ¬ c < 0 ∧ ¬ (65535 : Int32) < c) : nar .char c = c := by
  have q := c_i2c c
  have e : (nar .char c) = c.toUInt32.toUInt16.toUInt32.toInt32 := rfl
  rw [e]
  apply Int32.toInt_inj.mp
  rw [Int32.lt_iff_toInt_lt, Int32.lt_iff_toInt_lt] at h
  have : (0 : Int32).toInt = 0 := rfl
  have : (65535 : Int32).toInt = 65535 := rfl
  omega
/-- an instance method of a JDK class that moves nothing, by a pasted law -/
theorem Run.virtP (X : Sit Z a0 EL kx p l e R s m args below meth c own bytes maxL rt nm h0 ws sf T h locs cells slots) {y : MethodName} {index pc W : Nat} {Ls : Array Slot} {cls : String} {st argsL rest : List Value} {ps : List FieldType} {rr : Option FieldType} {V : Option Value → Prop}
    (bk : ∀ vm0, Z.Warmed39 (s.setVm vm0).vm → Back l R p e below (s.setVm vm0) args y 3 W (fun P b => b = (.ref a :: argsL).toArray ∧ P.U.heap = h ∧ P.cells + 0 ≤ R.cells ∧ P.slots + 0 ≤ R.slots) (fun P _ v B => ∃ L, (V v ∧ L = [] ∧ B.U.heap = h) ∧ B.locs = P.locs ++ L ∧ B.cells = P.cells + 0 ∧ B.slots = P.slots + 0))
    (E : Exa Z h a cls) (w1 : (Cond.methodLink own index y).before a0 Z = true) (wd : (Cond.declares y).before a0 Z = true) (w2 : (Cond.instanceMethod y).before a0 Z = true) (wl : (Cond.selects cls y y).before a0 Z = true) (hy : y.cls ≠ "java/lang/invoke/MethodHandle" ∧ y.cls ≠ "java/lang/invoke/VarHandle")
    (hds : parseMethodDescriptor y.desc = some ⟨ps, rr⟩) (hln : argsL.length = ps.length) (hst : st = argsL.reverse ++ .ref a :: rest) (hW : (rest.map fun v => v.category).sum ≤ W) (hsz : Ls.size = maxL) (hd : decode bytes pc = .ok (.invokevirtual index, 3)) (hc : cells ≤ R.cells) (hs : slots ≤ R.slots)
    (k : ∀ (v : Option Value) (T' : State), V v → Sit Z a0 EL kx p l e R s m args below meth c own bytes maxL rt nm h0 ws sf T' h locs cells slots → Run Z EL sv p e below s h0 ws Q kc ks T' (mkF m (pc + 3) Ls (v.toList ++ rest))) : Run Z EL sv p e below s h0 ws Q kc ks T (mkF m pc Ls st) := by
  obtain ⟨T', X', v, hv, sp⟩ := X.same (Q' := fun T' => ∃ v, V v ∧ Steps p.tables e below (T.setTop (mkF m pc Ls st)) (T'.setTop (mkF m (pc + 3) Ls (v.toList ++ rest)))) fun vm0 Y hZ ho => by
    obtain ⟨cq, kq, qa, qb, qc⟩ := isOf (s := s.setVm vm0) hZ X.eh E
    obtain ⟨v, _, ⟨T', L', k', n'⟩, -, Y', ⟨Lc, ⟨q1, q2, q3⟩, l1, y1, z1⟩, sp⟩ := Y.virtualBack X.ex (y := y) (z := y) ho (mv hZ w1) (mv hZ wd) (notFace_of_selects (args := #[]) (mv hZ wl)) (mv hZ wl) (mv hZ w2) hy (bk vm0 hZ) qa qc (g := mkF m pc Ls st) rfl (hsz.trans X.ml.symm) (Steps.refl _) (argsL := argsL) (rest := rest) (lenOf hds hln) hst (by show 2 * 0 + _ ≤ _; omega) (X.de hd) (fun _ _ => ⟨rfl, X.eh, hc, hs⟩)
    dsimp only [Pt.U, Pt.locs, Pt.cells, Pt.slots] at Y' l1 y1 z1 sp q1 q2 q3
    subst l1 y1 z1 q2
    simp only [List.append_nil] at Y'
    exact ⟨T', Y', q3, v, q1, sp⟩
  exact Run.on sp (k v T' hv X')
end Strs
end Jvm.Pilot.@@N@@
-- part strs
namespace Jvm.Pilot.@@N@@
open Jvm Jvm.ClassFile Sem Op Lib Jvm.Free Jvm.Stand Jvm.LawKit Jvm.RoadKit Bundle Jvm.Pilot.@@N@@.Jvm.D
theorem hwsLit {Z : State} {a0 : Array Value} (hw : ∀ d ∈ tables_1, d.before a0 Z = true) : ∀ d ∈ Bundle.stringAtoms, d.before a0 Z = true := fun d hd => hw d ((by decide +kernel : ∀ d ∈ Bundle.stringAtoms, d ∈ tables_1) d hd)
/-- 'ldc' of a String constant, whether the JVM holds it already or not -/
theorem Run.ldcS {Z : State} {a0 : Array Value} {EL : List (String × Nat)} {sv : Option Value → Heap → Addr → Prop} {kx : Bool} {p : Program} {l : Launch} {e : Env} {R : Room} {s : State} {m : MethodId} {args : Array Value} {below : List Frame} {meth : Method} {c : Code} {own : String} {bytes : ByteArray} {maxL : Nat} {rt : Option FieldType} {nm : String} {h0 : Heap} {ws sf : List Addr} {T : State} {h : Heap} {locs : List Loc} {cells slots : Nat} {Q : Option Value → Heap → Prop} {kc ks : Nat} (hw : ∀ d ∈ tables_1, d.before a0 Z = true) (hN : NW = false) (X : Sit Z a0 EL kx p l e R s m args below meth c own bytes maxL rt nm h0 ws sf T h locs cells slots) {text : String} {cs : List Int32} {index pc n : Nat} {Ls : Array Slot} {st : List Value} (w : (Cond.stringLink own index text).before a0 Z = true) (hm : (own, index) ∈ EL)
    (ht : (∀ c ∈ text.toList, c.toNat < 256) ∧ text.toList.map (fun c => Value.int (Jvm.Lit.byteI c.toNat.toUInt16)) = (cs.map fun c => Value.int (StrChars.lo8 c))) (hcs : ∀ c ∈ cs, ¬ c < 0 ∧ ¬ (255 : Int32) < c) (hlen : cs.length ≤ 4000) (hd : decode bytes pc = .ok (.ldc index, 2)) (hn : 4 * text.toList.length ≤ n) (hbig : n ≤ 20000) (hc : cells + 2 ≤ R.cells) (hl' : slots + (n + 4) ≤ R.slots)
    (k : ∀ (a : Addr) (T' : State) (h' : Heap) (L : List Loc), Sit Z a0 EL kx p l e R s m args below meth c own bytes maxL rt nm h0 ws sf T' h' (locs ++ L) (cells + 2) (slots + (n + 4)) → Keep h h' [] → Str Z h' a cs → Run Z EL sv p e below s h0 ws Q kc ks T' (mkF m (pc + 2) Ls (.ref a :: st))) : Run Z EL sv p e below s h0 ws Q kc ks T (mkF m pc Ls st) := by
  obtain ⟨T', h', L', X', K, a, S, sp⟩ := X.reb (k := cells + 2) (n := slots + (n + 4)) (wz := []) (Q' := fun T' h' _ => ∃ a, Str Z h' a cs ∧ ∀ t, Steps p.tables e below (T'.setTop (mkF m (pc + 2) Ls (.ref a :: st))) t → Steps p.tables e below (T.setTop (mkF m pc Ls st)) t) (fun x hx => nomatch hx) fun vm0 k0 Y hZ ho hS hk H hs => by
    obtain ⟨a, T', h', k1, b, kb, Y', e', E, S1, hk1, hZ1, ho1, A1, F1, F2, V1, -, -, C1, -, -, st1⟩ := ldcCH Y X.ex hZ ho w (hwsLit hw) X.eh hS hk X.ew hm H (z := Int32.ofNat cs.length) ht (n32' hlen).1 (by rw [(n32' hlen).2]; simp) (g := mkF m pc Ls st) rfl (X.de hd) hn (by omega) hc hl'
    exact ⟨T', h', [], k1, by rw [List.append_nil]; exact Y', e', extK E, Fr.nil _, hZ1, ho1, S1, hk1, C1, (fun z => by rw [hN] at z; cases z), a, ⟨A1, b, kb, 0, _, _, F2, F1, V1, Or.inl ⟨rfl, rfl, rfl, fun c hc => (hcs c hc).2⟩, up _ hcs, hlen⟩, st1⟩
  exact Run.via sp (k a T' h' L' (X' sf fun x hx => Or.inl hx) K S)
end Jvm.Pilot.@@N@@
namespace Jvm.Pilot.@@N@@
open Jvm Jvm.ClassFile Sem Op Lib Jvm.Free Jvm.Stand Jvm.LawKit Jvm.RoadKit Bundle Jvm.Pilot.@@N@@.Jvm.D
theorem hwsChN {Z : State} {a0 : Array Value} (hw : ∀ d ∈ tables_1, d.before a0 Z = true) : ∀ d ∈ StrChars.Road.wordsChN, d.before a0 Z = true := fun d hd => hw d ((by decide +kernel : ∀ d ∈ StrChars.Road.wordsChN, d ∈ tables_1) d hd)
theorem Run.sch {Z : State} {a0 : Array Value} {EL : List (String × Nat)} {sv : Option Value → Heap → Addr → Prop} {kx : Bool} {p : Program} {l : Launch} {e : Env} {R : Room} {s : State} {m : MethodId} {args : Array Value} {below : List Frame} {meth : Method} {c : Code} {own : String} {bytes : ByteArray} {maxL : Nat} {rt : Option FieldType} {nm : String} {h0 : Heap} {ws sf : List Addr} {T : State} {h : Heap} {locs : List Loc} {cells slots : Nat} {Q : Option Value → Heap → Prop} {kc ks : Nat} (hw : ∀ d ∈ tables_1, d.before a0 Z = true) (hS : Sets Z) (X : Sit Z a0 EL kx p l e R s m args below meth c own bytes maxL rt nm h0 ws sf T h locs cells slots) {a : Addr} {cs : List Int32} {index pc W i : Nat} {j : Int32} {Ls : Array Slot} {rest : List Value} (S : Str Z h a cs) (hlat : ∀ c ∈ cs, ¬ (255 : Int32) < c) (hj : j = Int32.ofNat i) (hi : i < cs.length)
    (w1 : (Cond.methodLink own index (⟨"java/lang/String", "charAt", "(I)C"⟩ : MethodName)).before a0 Z = true) (wd : (Cond.declares (⟨"java/lang/String", "charAt", "(I)C"⟩ : MethodName)).before a0 Z = true) (w2 : (Cond.instanceMethod (⟨"java/lang/String", "charAt", "(I)C"⟩ : MethodName)).before a0 Z = true) (wl : (Cond.selects "java/lang/String" (⟨"java/lang/String", "charAt", "(I)C"⟩ : MethodName) (⟨"java/lang/String", "charAt", "(I)C"⟩ : MethodName)).before a0 Z = true) (wi : (Cond.instantiable "java/lang/String" 4).before a0 Z = true)
    (hd : decode bytes pc = .ok (.invokevirtual index, 3)) (hsz : Ls.size = maxL) (hW : (rest.map fun v => v.category).sum ≤ W) (hf : 4 ≤ R.frames) (hl : W + 53 ≤ R.locals) (hc : cells ≤ R.cells) (hs : slots ≤ R.slots)
    (k : ∀ (T' : State), Sit Z a0 EL kx p l e R s m args below meth c own bytes maxL rt nm h0 ws sf T' h locs cells slots → Run Z EL sv p e below s h0 ws Q kc ks T' (mkF m (pc + 3) Ls (.int (cs.getD i 0) :: rest))) : Run Z EL sv p e below s h0 ws Q kc ks T (mkF m pc Ls (.int j :: .ref a :: rest)) := by
  obtain ⟨zz, fm, S1, S2, S3, S4⟩ := hS
  obtain ⟨E, t, kb, cd, N2, vs, V, C, A, r1, r2, r3⟩ := S
  obtain rfl : cd = 0 := by
    rcases r1 with r1 | ⟨-, -, -, c, hc, q⟩
    · exact r1.1
    · exact absurd q (hlat c hc)
  refine Run.virtP X (W := W) (V := fun v => v = some (.int (cs.getD i 0))) (fun vm0 hZ => StrChars.Road.chN hZ (hwsChN hw) wi E V C A r1 r2 (S1.ext X.old) S2 (S3.ext X.old) S4 r3 hi hj hf hl) E w1 wd w2 wl (by decide) (ps := [.int]) (rr := some .char) (by decide +kernel) (argsL := [.int j]) rfl rfl hW hsz hd hc hs ?_
  intro v T' hv X'
  subst hv
  exact k T' X'
end Jvm.Pilot.@@N@@
namespace Jvm.Pilot.@@N@@
open Jvm Jvm.ClassFile Sem Op Lib Jvm.Free Jvm.Stand Jvm.LawKit Jvm.RoadKit Bundle Jvm.Pilot.@@N@@.Jvm.D
theorem hwsLen {Z : State} {a0 : Array Value} (hw : ∀ d ∈ tables_1, d.before a0 Z = true) : ∀ d ∈ StrChars.Road.wordsLen, d.before a0 Z = true := fun d hd => hw d ((by decide +kernel : ∀ d ∈ StrChars.Road.wordsLen, d ∈ tables_1) d hd)
theorem Run.slen {Z : State} {a0 : Array Value} {EL : List (String × Nat)} {sv : Option Value → Heap → Addr → Prop} {kx : Bool} {p : Program} {l : Launch} {e : Env} {R : Room} {s : State} {m : MethodId} {args : Array Value} {below : List Frame} {meth : Method} {c : Code} {own : String} {bytes : ByteArray} {maxL : Nat} {rt : Option FieldType} {nm : String} {h0 : Heap} {ws sf : List Addr} {T : State} {h : Heap} {locs : List Loc} {cells slots : Nat} {Q : Option Value → Heap → Prop} {kc ks : Nat} (hw : ∀ d ∈ tables_1, d.before a0 Z = true) (hS : Sets Z) (X : Sit Z a0 EL kx p l e R s m args below meth c own bytes maxL rt nm h0 ws sf T h locs cells slots) {a : Addr} {cs : List Int32} {index pc W : Nat} {Ls : Array Slot} {rest : List Value} (S : Str Z h a cs)
    (w1 : (Cond.methodLink own index (⟨"java/lang/String", "length", "()I"⟩ : MethodName)).before a0 Z = true) (wd : (Cond.declares (⟨"java/lang/String", "length", "()I"⟩ : MethodName)).before a0 Z = true) (w2 : (Cond.instanceMethod (⟨"java/lang/String", "length", "()I"⟩ : MethodName)).before a0 Z = true) (wl : (Cond.selects "java/lang/String" (⟨"java/lang/String", "length", "()I"⟩ : MethodName) (⟨"java/lang/String", "length", "()I"⟩ : MethodName)).before a0 Z = true) (wi : (Cond.instantiable "java/lang/String" 4).before a0 Z = true)
    (hd : decode bytes pc = .ok (.invokevirtual index, 3)) (hsz : Ls.size = maxL) (hW : (rest.map fun v => v.category).sum ≤ W) (hf : 2 ≤ R.frames) (hl : W + 25 ≤ R.locals) (hc : cells ≤ R.cells) (hs : slots ≤ R.slots)
    (k : ∀ (T' : State), Sit Z a0 EL kx p l e R s m args below meth c own bytes maxL rt nm h0 ws sf T' h locs cells slots → Run Z EL sv p e below s h0 ws Q kc ks T' (mkF m (pc + 3) Ls (.int (Int32.ofNat cs.length) :: rest))) : Run Z EL sv p e below s h0 ws Q kc ks T (mkF m pc Ls (.ref a :: rest)) := by
  obtain ⟨zz, fm, S1, S2, S3, S4⟩ := hS
  obtain ⟨E, t, kb, cd, N2, vs, V, C, A, r1, r2, r3⟩ := S
  refine Run.virtP X (W := W) (V := fun v => v = some (.int (Int32.ofNat cs.length))) (fun vm0 hZ => StrChars.Road.lenW hZ (hwsLen hw) wi E V C A r1 r2 (S1.ext X.old) S2 r3 hf hl) E w1 wd w2 wl (by decide) (ps := []) (rr := some .int) (by decide +kernel) (argsL := []) rfl rfl hW hsz hd hc hs ?_
  intro v T' hv X'
  subst hv
  exact k T' X'
end Jvm.Pilot.@@N@@
namespace Jvm.Pilot.@@N@@
open Jvm Jvm.ClassFile Sem Op Lib Jvm.Free Jvm.Stand Jvm.LawKit Jvm.RoadKit Bundle Jvm.Pilot.@@N@@.Jvm.D
theorem range_getD (L : List Int32) (sp nn : Nat) (h : sp + nn ≤ L.length) : (List.range nn).map (fun i => (L.map Value.int).getD (sp + i) (.int 0)) = ((L.drop sp).take nn).map Value.int := by
  apply List.ext_getElem
  · simp; omega
  · intro i h1 h2
    simp only [List.length_map, List.length_range] at h1
    have q : sp + i < L.length := by omega
    simp [List.getD_eq_getElem?_getD, List.getElem?_eq_getElem q]
/-- System.arraycopy of bytes -/
theorem Run.acopy {Z : State} {a0 : Array Value} {EL : List (String × Nat)} {sv : Option Value → Heap → Addr → Prop} {kx : Bool} {p : Program} {l : Launch} {e : Env} {R : Room} {s : State} {m : MethodId} {args : Array Value} {below : List Frame} {meth : Method} {c : Code} {own : String} {bytes : ByteArray} {maxL : Nat} {rt : Option FieldType} {nm : String} {h0 : Heap} {ws sf : List Addr} {T : State} {h : Heap} {locs : List Loc} {cells slots : Nat} {Q : Option Value → Heap → Prop} {kc ks : Nat} (X : Sit Z a0 EL kx p l e R s m args below meth c own bytes maxL rt nm h0 ws sf T h locs cells slots) {a b : Addr} {as' bs : List Int32} {sp dp nn index pc W : Nat} {Ls : Array Slot} {rest : List Value} (A : Arc .byte Z h a as') (B : Arc .byte Z h b bs) (h4 : sp + nn ≤ as'.length) (h5 : dp + nn ≤ bs.length)
    (w1 : (Cond.methodLink own index Jvm.Stand.acN).before a0 Z = true) (w2 : (Cond.native Jvm.Stand.acN).before a0 Z = true) (w3 : (Cond.static Jvm.Stand.acN).before a0 Z = true) (w4 : (Cond.initialized "java/lang/System").before a0 Z = true)
    (hx : b ∈ ws ∨ h0.size ≤ b) (hz : Z.heap.size ≤ b) (hsf : b ∈ sf) (hsz : Ls.size = maxL) (hd : decode bytes pc = .ok (.invokestatic index, 3)) (hW : (rest.map fun v => v.category).sum ≤ W) (hf : 1 ≤ R.frames) (hlo : W + (nativeFrameWords "java/lang/System" "arraycopy" 5 + 11) ≤ R.locals)
    (k : ∀ (T' : State) (h' : Heap) (L : List Loc), Sit Z a0 EL kx p l e R s m args below meth c own bytes maxL rt nm h0 ws sf T' h' L cells slots → Keep h h' [b] → Arc .byte Z h' b (bs.take dp ++ (as'.drop sp).take nn ++ bs.drop (dp + nn)) → Run Z EL sv p e below s h0 ws Q kc ks T' (mkF m (pc + 3) Ls rest)) :
    Run Z EL sv p e below s h0 ws Q kc ks T (mkF m pc Ls (.int (Int32.ofNat nn) :: .int (Int32.ofNat dp) :: .ref b :: .int (Int32.ofNat sp) :: .ref a :: rest)) := by
  obtain ⟨kA, VA, lA⟩ := A
  obtain ⟨kB, VB, lB⟩ := B
  have e1 := n32' (n := sp) (by omega); have e2 := n32' (n := dp) (by omega); have e3 := n32' (n := nn) (by omega); have e4 := n32' lA; have e5 := n32' lB
  obtain ⟨T', h', L, X', K, V, st⟩ := X.goL (k := cells) (n := slots) (wz := [b]) (Q' := fun T' h' => Arv Z h' b kB .byte (Int32.ofNat bs.length) ((bs.map Value.int).take dp ++ ((as'.drop sp).take nn).map Value.int ++ (bs.map Value.int).drop (dp + nn)) (.int 0) ∧ ∀ t, Steps p.tables e below (T'.setTop (mkF m (pc + 3) Ls rest)) t → Steps p.tables e below (T.setTop (mkF m pc Ls (.int (Int32.ofNat nn) :: .int (Int32.ofNat dp) :: .ref b :: .int (Int32.ofNat sp) :: .ref a :: rest))) t) (fun y hy => by cases List.mem_singleton.mp hy; exact ⟨hx, hz⟩) (fun vm0 al hs y hy => by cases List.mem_singleton.mp hy; exact hs b hsf) fun vm0 Y hZ ho => by
    obtain ⟨T', h', L, Y', e', N, K, V, st⟩ := cpA Y X.ex hZ ho w1 w2 w3 w4 X.eh VA VB (us := ((as'.drop sp).take nn).map Value.int) (Or.inl ⟨rfl, rfl⟩) e1.1 e2.1 e3.1 (by rw [e1.2, e3.2, e4.2]; exact h4) (by rw [e2.2, e3.2, e5.2]; exact h5) (by rw [e1.2, e3.2]; exact (range_getD as' sp nn h4).symm) (by rw [e2.2, e3.2]; simpa using h5) X.fr hz (g := mkF m pc Ls (.int (Int32.ofNat nn) :: .int (Int32.ofNat dp) :: .ref b :: .int (Int32.ofNat sp) :: .ref a :: rest)) rfl (hsz.trans X.ml.symm) (rest := rest) rfl (X.de hd) hf (W := W) (by show 2 * 0 + _ ≤ _; omega) hlo
    rw [e2.2, e3.2] at V
    exact ⟨T', h', L, Y', e', K, N, V, st⟩
  refine Run.via st (k T' h' L X' K ⟨kB, ?_, by simp; omega⟩)
  have q : (bs.take dp ++ (as'.drop sp).take nn ++ bs.drop (dp + nn)).length = bs.length := by simp; omega
  rw [q]
  simpa [List.map_take, List.map_drop] using V
end Jvm.Pilot.@@N@@
namespace Jvm.Pilot.@@N@@
open Jvm Jvm.ClassFile Sem Op Lib Jvm.Free Jvm.Stand Jvm.LawKit Jvm.RoadKit Bundle Jvm.Pilot.@@N@@.Jvm.D
theorem declares_of {U : State} {b : Array Value} {y : MethodName} {bytes : ByteArray} {maxL : Nat} {ret : Option FieldType} (wi : (Cond.instanceMethod y).before b U = true) (wc : (Cond.code y bytes maxL ret).before b U = true) : (Cond.declares y).before b U = true := by
  obtain ⟨mk, methM, hnamed, hmethM, hst, hab⟩ := Cond.instanceMethod_spec wi
  obtain ⟨m2, cM, p1, -, -, -, -, -, -, hsig⟩ := Cond.code_spec hnamed wc
  cases hmethM.symm.trans p1
  simp [Cond.before, Cond.holds, Cond.value, hnamed, hmethM, hst, hsig]
/-- 'new', and that the object is untouched -/
theorem Run.newU {Z : State} {a0 : Array Value} {EL : List (String × Nat)} {sv : Option Value → Heap → Addr → Prop} {kx : Bool} {p : Program} {l : Launch} {e : Env} {R : Room} {s : State} {m : MethodId} {args : Array Value} {below : List Frame} {meth : Method} {c : Code} {own : String} {bytes : ByteArray} {maxL : Nat} {rt : Option FieldType} {nm : String} {h0 : Heap} {ws sf : List Addr} {T : State} {h : Heap} {locs : List Loc} {cells slots : Nat} {Q : Option Value → Heap → Prop} {kc ks : Nat} (X : Sit Z a0 EL kx p l e R s m args below meth c own bytes maxL rt nm h0 ws sf T h locs cells slots) {C : String} {index n pc : Nat} {Ls : Array Slot} {st : List Value} (w : (Cond.classLink own index C).before a0 Z = true) (wi : (Cond.instantiable C n).before a0 Z = true) (wz : (Cond.initialized C).before a0 Z = true) (hd : decode bytes pc = .ok (.new index, 3)) (hc : cells + 1 ≤ R.cells) (hl : slots + n ≤ R.slots)
    (k : ∀ (T' : State) (h' : Heap) (x : Addr), @Eq Nat x h.size → Sit Z a0 EL kx p l e R s m args below meth c own bytes maxL rt nm h0 ws (x :: sf) T' h' locs (cells + 1) (slots + n) → Keep h h' [] → @LT.lt Nat _ x h'.size → Exa Z h' x C → (∀ {O f d : String} {ty : FieldType}, Laid Z a0 C O f d → parseFieldDescriptor d = some ty → Fld Z h' x O f d (defaultValue ty)) → Unt h' x → Run Z EL sv p e below s h0 ws Q kc ks T' (mkF m (pc + 3) Ls (.ref x :: st))) :
    Run Z EL sv p e below s h0 ws Q kc ks T (mkF m pc Ls st) := by
  obtain ⟨T', h', X', E, A, D, U, q⟩ := X.grow (k := cells + 1) (n := slots + n) (Q' := fun T' h' => Exa Z h' h.size C ∧ (∀ {O f d : String} {ty : FieldType}, Laid Z a0 C O f d → parseFieldDescriptor d = some ty → Fld Z h' h.size O f d (defaultValue ty)) ∧ Unt h' h.size ∧ ∀ t, Steps p.tables e below (T'.setTop (mkF m (pc + 3) Ls (.ref h.size :: st))) t → Steps p.tables e below (T.setTop (mkF m pc Ls st)) t) fun vm0 Y hZ ho => by
    obtain ⟨T', h', Y', e', E, A, D, U, q⟩ := newO Y X.ex hZ ho w wi wz X.eh (g := mkF m pc Ls st) rfl (X.de hd) hc hl
    exact ⟨T', h', Y', e', E, A.lt, A, D, U, q⟩
  exact Run.via q (k T' h' _ rfl X' (extK E) A.lt A D U)
theorem nf_same {s : State} {b : Array Value} {C : String} {y y' : MethodName} (w : (Cond.selects C y' y').before b s = true) (e : y.cls = y'.cls) : NotFace s y := fun r0 h0 => by
  obtain ⟨c2, r2, m2, q1, q2, q3, q4, kP, hkP, hkPi⟩ := Cond.selects_spec w
  have a := findClass_of_methodNamed h0
  have b := findClass_of_methodNamed q3
  rw [e] at a
  have : r0.cls = m2.cls := Option.some.inj (a.symm.trans b)
  rw [this]; exact ⟨kP, hkP, hkPi⟩
/-- a virtual call that picks another method -/
theorem Run.callVz {Z : State} {a0 : Array Value} {EL : List (String × Nat)} {sv : Option Value → Heap → Addr → Prop} {kx : Bool} {p : Program} {l : Launch} {e : Env} {R : Room} {s : State} {m : MethodId} {args : Array Value} {below : List Frame} {meth : Method} {c : Code} {own : String} {bytes : ByteArray} {maxL : Nat} {rt : Option FieldType} {nm : String} {h0 : Heap} {ws sf : List Addr} {T : State} {h : Heap} {locs : List Loc} {cells slots : Nat} {Q : Option Value → Heap → Prop} {kc ks : Nat} (X : Sit Z a0 EL kx p l e R s m args below meth c own bytes maxL rt nm h0 ws sf T h locs cells slots) {y z y' : MethodName} {cls' : String} {by' : ByteArray} {ml : Nat} {rt' : Option FieldType} {rm : Room} {wz sz : List Addr} {Q' : Option Value → Heap → Prop} {index pc W : Nat} {Ls : Array Slot} {a : Addr} {cls : String} {st argsL rest : List Value} {ps : List FieldType} {rr : Option FieldType}
    {su : Option Value → Heap → Addr → Prop} {kx' : Bool} (C : Con l Z a0 EL su kx' z by' ml rt' rm wz sz (.ref a :: argsL).toArray h Q') (E : Exa Z h a cls) (w1 : (Cond.methodLink own index y).before a0 Z = true) (wd : (Cond.declares y).before a0 Z = true) (w2 : (Cond.instanceMethod z).before a0 Z = true) (wl : (Cond.selects cls y z).before a0 Z = true) (wn : (Cond.selects cls' y' y').before a0 Z = true) (hyy : y.cls = y'.cls) (w3 : (Cond.initialized z.cls).before a0 Z = true) (w4 : (Cond.code z by' ml rt').before a0 Z = true) (hy : y.cls ≠ "java/lang/invoke/MethodHandle" ∧ y.cls ≠ "java/lang/invoke/VarHandle")
    (hds : parseMethodDescriptor y.desc = some ⟨ps, rr⟩) (hln : argsL.length = ps.length) (hst : st = argsL.reverse ++ .ref a :: rest) (hW : (rest.map fun v => v.category).sum ≤ W) (hsz : Ls.size = maxL) (hd : decode bytes pc = .ok (.invokevirtual index, 3)) (hf : rm.frames + 1 ≤ R.frames) (hl : W + (ml + 11) + rm.locals ≤ R.locals) (hc : cells + rm.cells ≤ R.cells) (hs : slots + rm.slots ≤ R.slots) (hwz : ∀ x ∈ wz, (x ∈ ws ∨ h0.size ≤ x) ∧ Z.heap.size ≤ x) (hsf : ∀ x ∈ sz, x ∈ sf)
    (k : ∀ (v : Option Value) (T' : State) (h' : Heap) (L : List Loc), Q' v h' → Sit Z a0 EL kx p l e R s m args below meth c own bytes maxL rt nm h0 ws sf T' h' (locs ++ L) (cells + rm.cells) (slots + rm.slots) → (∀ x, su v h' x → Sit Z a0 EL kx p l e R s m args below meth c own bytes maxL rt nm h0 ws (x :: sf) T' h' (locs ++ L) (cells + rm.cells) (slots + rm.slots)) → Keep h h' wz → Run Z EL sv p e below s h0 ws Q kc ks T' (mkF m (pc + 3) Ls (v.toList ++ rest))) (hkx' : kx' = true → kx = true := by first | exact id | (intro h; cases h)) : Run Z EL sv p e below s h0 ws Q kc ks T (mkF m pc Ls st) :=
  Run.called X (len := 3) (W := W) C hkx' w3 w4 hf hl hwz hsf (fun vm0 Y hZ ho _ bk => by
    obtain ⟨cq, kq, qa, qb, qc⟩ := isOf (s := s.setVm vm0) hZ X.eh E
    exact Y.virtualBackS X.ex (y := y) (z := z) ho (mv hZ w1) (mv hZ wd) (nf_same (b := #[]) (mv hZ wn) hyy) (mv hZ wl) (mv hZ w2) hy bk qa qc (g := mkF m pc Ls st) rfl (hsz.trans X.ml.symm) (Steps.refl _) (argsL := argsL) (rest := rest) (lenOf hds hln) hst (by show 2 * 0 + _ ≤ _; omega) (X.de hd) (fun _ _ => ⟨rfl, X.eh, hc, hs⟩)) k
theorem same_of_declares {U : State} {b : Array Value} {C : String} {y y' : MethodName} (w : (Cond.declares y).before b U = true) (hy : y.cls ≠ "java/lang/invoke/MethodHandle" ∧ y.cls ≠ "java/lang/invoke/VarHandle") (wn : (Cond.selects C y' y').before b U = true) (e : y.cls = y'.cls) : (Cond.sameMethod y.cls y.cls y.name y.desc).before b U = true := by
  obtain ⟨r0, r, hn, -⟩ := Cond.declares_spec w
  have hf := State.methodFound?_of_named hn hy
  have hc := findClass_of_methodNamed hn
  obtain ⟨kr, h1, h2⟩ := nf_same wn e r0 hn
  simp [Cond.before, Cond.holds, Cond.value, hc, hf, hn, h1, h2]
/-- a call of the superclass's method -/
theorem Run.callU {Z : State} {a0 : Array Value} {EL : List (String × Nat)} {sv : Option Value → Heap → Addr → Prop} {kx : Bool} {p : Program} {l : Launch} {e : Env} {R : Room} {s : State} {m : MethodId} {args : Array Value} {below : List Frame} {meth : Method} {c : Code} {own : String} {bytes : ByteArray} {maxL : Nat} {rt : Option FieldType} {nm : String} {h0 : Heap} {ws sf : List Addr} {T : State} {h : Heap} {locs : List Loc} {cells slots : Nat} {Q : Option Value → Heap → Prop} {kc ks : Nat} (X : Sit Z a0 EL kx p l e R s m args below meth c own bytes maxL rt nm h0 ws sf T h locs cells slots) {y : MethodName} {by' : ByteArray} {ml : Nat} {rt' : Option FieldType} {rm : Room} {wz sz : List Addr} {Q' : Option Value → Heap → Prop} {index pc W : Nat} {Ls : Array Slot} {a : Addr} {cls : String} {st argsL rest : List Value} {ps : List FieldType} {rr : Option FieldType}
    {su : Option Value → Heap → Addr → Prop} {kx' : Bool} (C : Con l Z a0 EL su kx' y by' ml rt' rm wz sz (.ref a :: argsL).toArray h Q') (E : Exa Z h a cls) (w1 : (Cond.methodLink own index y).before a0 Z = true) (w2 : (Cond.sameMethod y.cls y.cls y.name y.desc).before a0 Z = true) (wi : (Cond.instanceMethod y).before a0 Z = true) (wp : (Cond.superclass own y.cls).before a0 Z = true) (hn : y.name ≠ "<init>") (w3 : (Cond.initialized y.cls).before a0 Z = true) (w4 : (Cond.code y by' ml rt').before a0 Z = true)
    (hds : parseMethodDescriptor y.desc = some ⟨ps, rr⟩) (hln : argsL.length = ps.length) (hst : st = argsL.reverse ++ .ref a :: rest) (hW : (rest.map fun v => v.category).sum ≤ W) (hsz : Ls.size = maxL) (hd : decode bytes pc = .ok (.invokespecial index, 3)) (hf : rm.frames + 1 ≤ R.frames) (hl : W + (ml + 11) + rm.locals ≤ R.locals) (hc : cells + rm.cells ≤ R.cells) (hs : slots + rm.slots ≤ R.slots) (hwz : ∀ x ∈ wz, (x ∈ ws ∨ h0.size ≤ x) ∧ Z.heap.size ≤ x) (hsf : ∀ x ∈ sz, x ∈ sf)
    (k : ∀ (v : Option Value) (T' : State) (h' : Heap) (L : List Loc), Q' v h' → Sit Z a0 EL kx p l e R s m args below meth c own bytes maxL rt nm h0 ws sf T' h' (locs ++ L) (cells + rm.cells) (slots + rm.slots) → (∀ x, su v h' x → Sit Z a0 EL kx p l e R s m args below meth c own bytes maxL rt nm h0 ws (x :: sf) T' h' (locs ++ L) (cells + rm.cells) (slots + rm.slots)) → Keep h h' wz → Run Z EL sv p e below s h0 ws Q kc ks T' (mkF m (pc + 3) Ls (v.toList ++ rest))) (hkx' : kx' = true → kx = true := by first | exact id | (intro h; cases h)) : Run Z EL sv p e below s h0 ws Q kc ks T (mkF m pc Ls st) :=
  Run.called X (len := 3) (W := W) C hkx' w3 w4 hf hl hwz hsf (fun vm0 Y hZ ho _ bk => superBackS (s := s.setVm vm0) Y X.ex hZ ho w1 w2 wi wp hn bk X.eh (Ins.self E) (g := mkF m pc Ls st) rfl (hsz.trans X.ml.symm) w4 (argsL := argsL) (rest := rest) (lenOf hds hln) hst (by show 2 * 0 + _ ≤ _; omega) (X.de hd) (fun _ _ => ⟨rfl, X.eh, hc, hs⟩)) k
/-- a virtual call of a method that the named class inherits -/
theorem Run.callW {Z : State} {a0 : Array Value} {EL : List (String × Nat)} {sv : Option Value → Heap → Addr → Prop} {kx : Bool} {p : Program} {l : Launch} {e : Env} {R : Room} {s : State} {m : MethodId} {args : Array Value} {below : List Frame} {meth : Method} {c : Code} {own : String} {bytes : ByteArray} {maxL : Nat} {rt : Option FieldType} {nm : String} {h0 : Heap} {ws sf : List Addr} {T : State} {h : Heap} {locs : List Loc} {cells slots : Nat} {Q : Option Value → Heap → Prop} {kc ks : Nat} (X : Sit Z a0 EL kx p l e R s m args below meth c own bytes maxL rt nm h0 ws sf T h locs cells slots) {y z : MethodName} {by' : ByteArray} {ml : Nat} {rt' : Option FieldType} {rm : Room} {wz sz : List Addr} {Q' : Option Value → Heap → Prop} {index pc W : Nat} {Ls : Array Slot} {a : Addr} {cls : String} {st argsL rest : List Value} {ps : List FieldType} {rr : Option FieldType}
    {su : Option Value → Heap → Addr → Prop} {kx' : Bool} (C : Con l Z a0 EL su kx' z by' ml rt' rm wz sz (.ref a :: argsL).toArray h Q') (E : Exa Z h a cls) (w1 : (Cond.methodLink own index y).before a0 Z = true) (wm : (Cond.sameMethod y.cls z.cls y.name y.desc).before a0 Z = true) (hnm : z.name = y.name ∧ z.desc = y.desc) (w2 : (Cond.instanceMethod z).before a0 Z = true) (wl : (Cond.selects cls y z).before a0 Z = true) (w3 : (Cond.initialized z.cls).before a0 Z = true) (w4 : (Cond.code z by' ml rt').before a0 Z = true) (hy : z.cls ≠ "java/lang/invoke/MethodHandle" ∧ z.cls ≠ "java/lang/invoke/VarHandle")
    (hds : parseMethodDescriptor z.desc = some ⟨ps, rr⟩) (hln : argsL.length = ps.length) (hst : st = argsL.reverse ++ .ref a :: rest) (hW : (rest.map fun v => v.category).sum ≤ W) (hsz : Ls.size = maxL) (hd : decode bytes pc = .ok (.invokevirtual index, 3)) (hf : rm.frames + 1 ≤ R.frames) (hl : W + (ml + 11) + rm.locals ≤ R.locals) (hc : cells + rm.cells ≤ R.cells) (hs : slots + rm.slots ≤ R.slots) (hwz : ∀ x ∈ wz, (x ∈ ws ∨ h0.size ≤ x) ∧ Z.heap.size ≤ x) (hsf : ∀ x ∈ sz, x ∈ sf)
    (k : ∀ (v : Option Value) (T' : State) (h' : Heap) (L : List Loc), Q' v h' → Sit Z a0 EL kx p l e R s m args below meth c own bytes maxL rt nm h0 ws sf T' h' (locs ++ L) (cells + rm.cells) (slots + rm.slots) → (∀ x, su v h' x → Sit Z a0 EL kx p l e R s m args below meth c own bytes maxL rt nm h0 ws (x :: sf) T' h' (locs ++ L) (cells + rm.cells) (slots + rm.slots)) → Keep h h' wz → Run Z EL sv p e below s h0 ws Q kc ks T' (mkF m (pc + 3) Ls (v.toList ++ rest))) (hkx' : kx' = true → kx = true := by first | exact id | (intro h; cases h)) : Run Z EL sv p e below s h0 ws Q kc ks T (mkF m pc Ls st) :=
  Run.called X (len := 3) (W := W) C hkx' w3 w4 hf hl hwz hsf (fun vm0 Y hZ ho _ bk => by
    obtain ⟨cq, kq, qa, qb, qc⟩ := isOf (s := s.setVm vm0) hZ X.eh E
    obtain ⟨cellB, hcellT, hclsB, hstatB⟩ := qc
    obtain ⟨mk, methM, hnamed, hmethM, hstM, habM⟩ := Cond.instanceMethod_spec (mv (args := args) hZ w2)
    obtain ⟨m2, cM, p1, -, -, -, -, -, -, hsig⟩ := Cond.code_spec hnamed (mv (args := args) hZ w4)
    cases hmethM.symm.trans p1
    obtain ⟨c2, r2, m3, q1, q2, q3, q4, kP, hkP, hkPi⟩ := Cond.selects_spec (mv (args := args) hZ wl)
    cases qa.symm.trans q1
    cases hnamed.symm.trans q3
    obtain ⟨cn, ck, r1, hcn, hck, hni, hfnd, hn1⟩ := Cond.sameMethod_found (mv (args := args) hZ wm)
    have ez : (⟨z.cls, y.name, y.desc⟩ : MethodName) = z := by obtain ⟨zc, zn, zd⟩ := z; simp only at hnm; rw [← hnm.1, ← hnm.2]
    rw [ez] at hn1
    cases hnamed.symm.trans hn1
    cases hfnd.symm.trans q2
    have hselP : selectMethod e.platform (s.setVm vm0).vm cellB.cls mk = .method mk := by rw [Launch.admits_selectMethod Y.admits, hclsB]; exact q4
    obtain ⟨vm₁, X₁, hstep₁⟩ := Y.invokevirtualUp X.ex ho (mv hZ w1) (mv hZ wm) hy (r0 := mk) (r := methM) (by rw [ez]; exact hnamed) hmethM hstM hcellT (fun z h => by rw [h] at hstatB; cases hstatB) hselP hmethM habM hkP hkPi (g := mkF m pc Ls st) rfl (argsL := argsL) (rest := rest) (lenOf hds hln _ hsig) hst (X.de hd)
    obtain ⟨v, B, X', hS, hgr, hpost, hsteps⟩ := bk m meth c ⟨T.setVm vm₁, locs, cells, slots⟩ { mkF m pc Ls st with stack := rest } (.invokevirtual index) mk (.ref a :: argsL).toArray X₁ rfl (hsz.trans X.ml.symm) (X.de hd) (by show 2 * 0 + (rest.map fun v => v.category).sum ≤ W; omega) (X₁.named hnamed) ⟨rfl, X.eh, hc, hs⟩
    exact ⟨v, vm₁, B, X₁.warmed, X', hS, hgr, hpost, (hstep₁ _ fun acts => by rw [doInvoke_state]; exact Steps.refl _).trans hsteps⟩) k
/-- checkcast that passes -/
theorem Run.castY {Z : State} {a0 : Array Value} {EL : List (String × Nat)} {sv : Option Value → Heap → Addr → Prop} {kx : Bool} {p : Program} {l : Launch} {e : Env} {R : Room} {s : State} {m : MethodId} {args : Array Value} {below : List Frame} {meth : Method} {c : Code} {own : String} {bytes : ByteArray} {maxL : Nat} {rt : Option FieldType} {nm : String} {h0 : Heap} {ws sf : List Addr} {T : State} {h : Heap} {locs : List Loc} {cells slots : Nat} {Q : Option Value → Heap → Prop} {kc ks : Nat} (X : Sit Z a0 EL kx p l e R s m args below meth c own bytes maxL rt nm h0 ws sf T h locs cells slots) {K : String} {index pc : Nat} {Ls : Array Slot} {st : List Value} {a : Addr} (w : (Cond.classLink own index K).before a0 Z = true) (F : Ins Z h a K true) (hd : decode bytes pc = .ok (.checkcast index, 3))
    (k : ∀ (T' : State), Sit Z a0 EL kx p l e R s m args below meth c own bytes maxL rt nm h0 ws sf T' h locs cells slots → Run Z EL sv p e below s h0 ws Q kc ks T' (mkF m (pc + 3) Ls (.ref a :: st))) : Run Z EL sv p e below s h0 ws Q kc ks T (mkF m pc Ls (.ref a :: st)) := by
  obtain ⟨T', X', q⟩ := X.same fun vm0 Y hZ ho => Jvm.RoadKit.castY Y X.ex hZ ho w X.eh F (g := mkF m pc Ls (.ref a :: st)) rfl rfl (X.de hd)
  exact Run.via q (k T' X')
/-- newarray byte, with its class -/
theorem Run.newarrE {Z : State} {a0 : Array Value} {EL : List (String × Nat)} {sv : Option Value → Heap → Addr → Prop} {kx : Bool} {p : Program} {l : Launch} {e : Env} {R : Room} {s : State} {m : MethodId} {args : Array Value} {below : List Frame} {meth : Method} {c : Code} {own : String} {bytes : ByteArray} {maxL : Nat} {rt : Option FieldType} {nm : String} {h0 : Heap} {ws sf : List Addr} {T : State} {h : Heap} {locs : List Loc} {cells slots : Nat} {Q : Option Value → Heap → Prop} {kc ks : Nat} (X : Sit Z a0 EL kx p l e R s m args below meth c own bytes maxL rt nm h0 ws sf T h locs cells slots) {pc n cap : Nat} {j : Int32} {Ls : Array Slot} {st : List Value} (w : (Cond.arrayClass .byte).before a0 Z = true) (hd : decode bytes pc = .ok (.newarray .byte, 2)) (hj : j = Int32.ofNat n) (hcap : n ≤ cap) (hn : cap ≤ 4000) (hc : cells + 1 ≤ R.cells) (hl : slots + cap ≤ R.slots)
    (k : ∀ (T' : State) (h' : Heap) (x : Addr), @Eq Nat x h.size → Sit Z a0 EL kx p l e R s m args below meth c own bytes maxL rt nm h0 ws (x :: sf) T' h' locs (cells + 1) (slots + cap) → Keep h h' [] → @LT.lt Nat _ x h'.size → Arc .byte Z h' x (List.replicate n 0) → Exa Z h' x "[B" → Run Z EL sv p e below s h0 ws Q kc ks T' (mkF m (pc + 2) Ls (.ref x :: st))) :
    Run Z EL sv p e below s h0 ws Q kc ks T (mkF m pc Ls (.int j :: st)) := by
  subst hj
  have hn' : n ≤ 4000 := Nat.le_trans hcap hn
  have q32 := n32' hn'
  obtain ⟨T', h', X', E, lt, A, Ex, q⟩ := X.grow (k := cells + 1) (n := slots + cap) (Q' := fun T' h' => h.size < h'.size ∧ Arc .byte Z h' h.size (List.replicate n 0) ∧ Exa Z h' h.size "[B" ∧ ∀ t, Steps p.tables e below (T'.setTop (mkF m (pc + 2) Ls (.ref h.size :: st))) t → Steps p.tables e below (T.setTop (mkF m pc Ls (.int (Int32.ofNat n) :: st))) t) fun vm0 Y hZ ho => by
    obtain ⟨T', h', kA, Y', e', E, A, Ex, q⟩ := newPE (aty := .byte) Y X.ex hZ w X.eh (g := mkF m pc Ls (.int (Int32.ofNat n) :: st)) rfl (X.de hd) rfl q32.1 (cap := cap) (by rw [q32.2]; exact hcap) (by omega) hc hl (ad := "[B") (by decide)
    have V : Arv Z h' h.size kA .byte (Int32.ofNat n) [] (.int 0) := Arv.new A q32.1
    refine ⟨T', h', Y', e', E, A.lt, A.lt, ⟨kA, ?_, by simpa using hn'⟩, Ex, q⟩
    have V2 := V.pad (vs' := (List.replicate n (0 : Int32)).map Value.int) fun i => by
      have := pad_rep [] (.int 0) n i
      simpa using this
    simpa using V2
  exact Run.via q (k T' h' _ rfl X' (extK E) lt A Ex)
/-- byte[].clone() -/
theorem Run.clone {Z : State} {a0 : Array Value} {EL : List (String × Nat)} {sv : Option Value → Heap → Addr → Prop} {kx : Bool} {p : Program} {l : Launch} {e : Env} {R : Room} {s : State} {m : MethodId} {args : Array Value} {below : List Frame} {meth : Method} {c : Code} {own : String} {bytes : ByteArray} {maxL : Nat} {rt : Option FieldType} {nm : String} {h0 : Heap} {ws sf : List Addr} {T : State} {h : Heap} {locs : List Loc} {cells slots : Nat} {Q : Option Value → Heap → Prop} {kc ks : Nat} (X : Sit Z a0 EL kx p l e R s m args below meth c own bytes maxL rt nm h0 ws sf T h locs cells slots) {a : Addr} {cs : List Int32} {index pc W cap : Nat} {Ls : Array Slot} {rest : List Value} (A : Arc .byte Z h a cs) (E : Exa Z h a "[B") (w1 : (Cond.methodLink own index ⟨"[B", "clone", "()Ljava/lang/Object;"⟩).before a0 Z = true) (w2 : (Cond.sameMethod "[B" "java/lang/Object" "clone" "()Ljava/lang/Object;").before a0 Z = true) (w3 : (Cond.native ⟨"java/lang/Object", "clone", "()Ljava/lang/Object;"⟩).before a0 Z = true)
    (w4 : (Cond.instanceMethod ⟨"java/lang/Object", "clone", "()Ljava/lang/Object;"⟩).before a0 Z = true) (w5 : (Cond.selects "[B" ⟨"[B", "clone", "()Ljava/lang/Object;"⟩ ⟨"java/lang/Object", "clone", "()Ljava/lang/Object;"⟩).before a0 Z = true) (w6 : (Cond.castable "[B" "java/lang/Cloneable").before a0 Z = true)
    (hsz : Ls.size = maxL) (hd : decode bytes pc = .ok (.invokevirtual index, 3)) (hW : (rest.map fun v => v.category).sum ≤ W) (hf : 1 ≤ R.frames) (hl : W + 14 ≤ R.locals) (hcap : cs.length ≤ cap) (hc : cells + 1 ≤ R.cells) (hsl : slots + cap ≤ R.slots)
    (k : ∀ (T' : State) (h' : Heap) (x : Addr), @Eq Nat x h.size → Sit Z a0 EL kx p l e R s m args below meth c own bytes maxL rt nm h0 ws (x :: sf) T' h' locs (cells + 1) (slots + cap) → Keep h h' [] → @LT.lt Nat _ x h'.size → Arc .byte Z h' x cs → Exa Z h' x "[B" → Run Z EL sv p e below s h0 ws Q kc ks T' (mkF m (pc + 3) Ls (.ref x :: rest))) : Run Z EL sv p e below s h0 ws Q kc ks T (mkF m pc Ls (.ref a :: rest)) := by
  obtain ⟨kA, VA, lA⟩ := A
  have e4 := n32' lA
  obtain ⟨T', h', X', E', lt, A', Ex, q⟩ := X.grow (k := cells + 1) (n := slots + cap) (Q' := fun T' h' => h.size < h'.size ∧ Arc .byte Z h' h.size cs ∧ Exa Z h' h.size "[B" ∧ ∀ t, Steps p.tables e below (T'.setTop (mkF m (pc + 3) Ls (.ref h.size :: rest))) t → Steps p.tables e below (T.setTop (mkF m pc Ls (.ref a :: rest))) t) fun vm0 Y hZ ho => by
    obtain ⟨T', h', Y', e', ex, A', E', st⟩ := cloneH Y X.ex hZ ho w1 w2 w3 w4 w5 w6 X.eh VA.arh E (g := mkF m pc Ls (.ref a :: rest)) rfl (hsz.trans X.ml.symm) rfl (X.de hd) hf (W := W) (cap := cap) (by show 2 * 0 + _ ≤ _; omega) hl (by rw [e4.2]; exact hcap) hc hsl
    exact ⟨T', h', Y', e', ex, E'.lt, E'.lt, ⟨kA, A', lA⟩, E', st⟩
  exact Run.via q (k T' h' _ rfl X' (extK E') lt A' Ex)
/-- the constructor of an exception (String), on an object that the walk made -/
theorem Run.exc1 {Z : State} {a0 : Array Value} {EL : List (String × Nat)} {sv : Option Value → Heap → Addr → Prop} {kx : Bool} {p : Program} {l : Launch} {e : Env} {R : Room} {s : State} {m : MethodId} {args : Array Value} {below : List Frame} {meth : Method} {c : Code} {own : String} {bytes : ByteArray} {maxL : Nat} {rt : Option FieldType} {nm : String} {h0 : Heap} {ws sf : List Addr} {T : State} {h : Heap} {locs : List Loc} {cells slots : Nat} {Q : Option Value → Heap → Prop} {kc ks : Nat} {rc : String} {links : List Exc.Link} {ic n pc : Nat} {Ls : Array Slot} {rest : List Value} {a : Addr} {msg : Value} (X : Sit Z a0 EL true p l e R s m args below meth c own bytes maxL rt nm h0 ws sf T h locs cells slots) (O : Ext Z.heap h0) (hl : l.stackTraces = true) (hok : Exc.linksOk 1 links = true)
    (w1 : (Cond.methodLink own ic (Exc.ctor 1 (Exc.headName links))).before a0 Z = true) (w2 : (Cond.instanceMethod (Exc.ctor 1 (Exc.headName links))).before a0 Z = true) (wT : (Exc.chainTab 1 rc links).before a0 Z = true) (wi : (Cond.instantiable rc n).before a0 Z = true) (r : ∀ d ∈ twoRefs, d.before a0 Z = true)
    (E : Exa Z h a rc) (N : Unt h a) (B : Fld Z h a tN "backtrace" Exc.obD .null) (B2 : Fld Z h a tN "detailMessage" Exc.msgD .null) (hmsg : msg.isRef = true) (hx : a ∈ ws ∨ h0.size ≤ a) (hz : Z.heap.size ≤ a) (hsf : a ∈ sf) (hsz : Ls.size = maxL) (hd : decode bytes pc = .ok (.invokespecial ic, 3))
    (hf : 4 + links.length ≤ R.frames) (hlo : (rest.map fun v => v.category).sum + (56 + 14 * links.length) ≤ R.locals) (hc : cells + 1 ≤ R.cells) (hsl : slots + 2752 ≤ R.slots)
    (k : ∀ (T' : State) (h' : Heap) (L : List Loc), Sit Z a0 EL true p l e R s m args below meth c own bytes maxL rt nm h0 ws sf T' h' (locs ++ L) (cells + 1) (slots + 2752) → Keep h h' [a] → Exa Z h' a rc → Fld Z h' a tN "detailMessage" Exc.msgD msg → Run Z EL sv p e below s h0 ws Q kc ks T' (mkF m (pc + 3) Ls rest)) : Run Z EL sv p e below s h0 ws Q kc ks T (mkF m pc Ls (msg :: .ref a :: rest)) := by
  obtain ⟨kn1, kn2, kn3⟩ := X.kno rfl
  obtain ⟨T', h', L', X', K, E', F', sp⟩ := X.go (k := cells + 1) (n := slots + 2752) (wz := [a]) (Q' := fun T' h' _ => Exa Z h' a rc ∧ Fld Z h' a tN "detailMessage" Exc.msgD msg ∧ ∀ t, Steps p.tables e below (T'.setTop (mkF m (pc + 3) Ls rest)) t → Steps p.tables e below (T.setTop (mkF m pc Ls (msg :: .ref a :: rest))) t) (fun y hy => by cases List.mem_singleton.mp hy; exact ⟨hx, hz⟩) (fun vm0 al hs y hy => by cases List.mem_singleton.mp hy; exact hs a hsf) fun vm0 Y hZ ho => by
    have al : s.vm.Alike vm0 := by obtain ⟨-, vm1, k0, Y1, r1, -, S1, -⟩ := id X; exact (S1.1.alike.trans r1.alike.symm).trans hZ.alike
    obtain ⟨T', h', Y', e', Kp', E', U', F', C', T2, st⟩ := excL1 Y X.ex hl hZ ho hok w1 w2 wT wi r (by show ThS Z s.heap; rw [kn3]; exact ThS.start.ext O) (ThS.start.ext X.old) (Vm.MethodsKnown.alikeC al kn1) (Vm.FramesKnown.alikeC al kn2) X.eh E N B B2 hmsg (g := mkF m pc Ls (msg :: .ref a :: rest)) rfl (hsz.trans X.ml.symm) (rest := rest) rfl (X.de hd) hf (by show 2 * 0 + _ + _ ≤ _; omega) hc hsl
    exact ⟨T', h', sixLocs Z a, Y', e', keep_of_kp Kp', (Fr.six (Fr.nil _) hz), E', F', st⟩
  exact Run.via sp (k T' h' L' X' K E' F')
end Jvm.Pilot.@@N@@
namespace Jvm.Pilot.@@N@@
open Jvm Jvm.ClassFile Sem Op Lib Jvm.Free Jvm.Stand Jvm.LawKit Jvm.RoadKit Bundle Jvm.Pilot.@@N@@.Jvm.D
/-- the word that the sheet doesn't give -/
def W24 : Jvm.Cond := .lays tN tN "suppressedExceptions" listD
/-- Throwable's links, where the layout of 'suppressedExceptions' is said of the receiver's class alone -/
theorem thrLinks {args : Array Value} {s : State} {pl : Platform} {rc : String} (h1 : pl.frameOwnsMonitors = true) (h2 : pl.finalization = false) (h3 : pl.magicAccessors = ({} : Platform).magicAccessors)
    (w : ∀ d, d ∈ throwableAtoms → d ≠ W24 → d.before args s = true) (wP : (Cond.lays rc tN "suppressedExceptions" listD).before args s = true) (wS : (Cond.lays rc tN "stackTrace" steD).before args s = true) :
    ∃ T : ThrowableC, T.Links pl s ∧ s.vm.findClass tN = some T.cT ∧ s.methodNamed? tFill = some T.fill ∧ s.methodNamed? tFill0 = some T.fill0 ∧ s.fieldFound? tN "stackTrace" steD = some (T.cT, T.kT, T.i17, T.fStack) ∧ s.fieldFound? tN "UNASSIGNED_STACK" steD = some (T.cT, T.kT, T.i13, T.fUnassigned) ∧ T.fStack.name = "stackTrace" ∧ T.fStack.type = .array (.object "java/lang/StackTraceElement") := by
  have q : ∀ d, d ∈ throwableAtoms → d ≠ W24 → d.holds args s none s [] = true := w
  obtain ⟨⟨c, i0⟩, n0, a1, a2, a3, a4, a5, a6⟩ := Cond.native_spec (q (.native tFill0) (by simp [throwableAtoms]) (by simp [W24]))
  have fc : s.vm.findClass tN = some c := findClass_of_methodNamed a1
  obtain ⟨k, fk, fn⟩ := Vm.findClass_spec fc
  obtain ⟨_, k1, _, _, b1, _, _, b2, _, b3⟩ := Cond.superclass_spec fc (q (.superclass tN "java/lang/Object") (by simp [throwableAtoms]) (by simp [W24]))
  cases fk.symm.trans b1
  obtain ⟨iF, mF, f1, f2, f3, f4, f5, -, -⟩ := Cond.ownMethod (x := tFill) fc fk (q (.instanceMethod tFill) (by simp [throwableAtoms]) (by simp [W24]))
  obtain ⟨mF', cF, g1, g2, g3, g4, g5, g6, -, g7⟩ := Cond.codeSync_spec f1 (q (.codeSync tFill LibCode.Throwable.Fill.code 1 (some (.object tN))) (by simp [throwableAtoms]) (by simp [W24]))
  cases f2.symm.trans g1
  obtain ⟨i0', n0', d1, d2, d3, d4, d5, d6, d7⟩ := Cond.ownMethod (x := tFill0) fc fk (q (.instanceMethod tFill0) (by simp [throwableAtoms]) (by simp [W24]))
  have e0 : i0 = i0' := by have := Option.some.inj (a1.symm.trans d1); simpa using this
  subst e0
  cases a2.symm.trans d2
  obtain ⟨iZ, mZ, z1, z2, z3, -, -, -, -⟩ := Cond.ownMethod (x := tInit0) fc fk (q (.instanceMethod tInit0) (by simp [throwableAtoms]) (by simp [W24]))
  obtain ⟨mZ', cZ, y1, y2, -⟩ := Cond.code_spec z1 (q (.code tInit0 LibCode.Throwable.Init0.code 1 none) (by simp [throwableAtoms]) (by simp [W24]))
  obtain ⟨mO, o, o1, o2, o3, o4⟩ := Cond.instanceMethod_spec (q (.instanceMethod oInit) (by simp [throwableAtoms]) (by simp [W24]))
  obtain ⟨o', cO, p1, p2, p3, p4, -, p5, -, p6⟩ := Cond.code_spec o1 (q (.code oInit ⟨#[0xb1]⟩ 1 none) (by simp [throwableAtoms]) (by simp [W24]))
  cases o2.symm.trans p1
  obtain ⟨kO, r1, r2⟩ := Vm.findClass_spec (findClass_of_methodNamed o1)
  obtain ⟨r3, r4⟩ := name_of_methodNamed o1 o2
  obtain ⟨c1, m1, cf, l1, l2, l3, l4⟩ := Cond.linkedMethod fc fk o1 (q (.methodLink tN 1 oInit) (by simp [throwableAtoms]) (by simp [W24])) pl h3
  obtain ⟨c27, m27, cf', l5, l6, l7, l8⟩ := Cond.linkedMethod fc fk f1 (q (.methodLink tN 27 tFill) (by simp [throwableAtoms]) (by simp [W24])) pl h3
  cases l3.symm.trans l7
  obtain ⟨c202, m202, cf', l9, l10, l11, l12⟩ := Cond.linkedMethod fc fk a1 (q (.methodLink tN 202 tFill0) (by simp [throwableAtoms]) (by simp [W24])) pl h3
  cases l3.symm.trans l11
  obtain ⟨c7, i7, f7, s1, s2, s3, s4, s5, s6, s7, s8⟩ := Cond.ownField (t := .object tN) fc fk (by decide +kernel) (q (.fieldLink tN 7 tN "cause" "Ljava/lang/Throwable;") (by simp [throwableAtoms]) (by simp [W24])) (q (.lays tN tN "cause" "Ljava/lang/Throwable;") (by simp [throwableAtoms]) (by simp [W24])) pl h3
  obtain ⟨c17, i17, f17, t1, t2, t3, t4, t5, t6, t7, t8⟩ := Cond.ownField (t := .array (.object "java/lang/StackTraceElement")) fc fk (by decide +kernel) (q (.fieldLink tN 17 tN "stackTrace" steD) (by simp [throwableAtoms]) (by simp [W24])) (q (.lays tN tN "stackTrace" steD) (by simp [throwableAtoms]) (by simp [W24])) pl h3
  obtain ⟨c24, i24, f24, u1, u2, u3, u4, u5, u6, u7, u8⟩ := Cond.ownField (t := .object "java/util/List") fc fk (by decide +kernel) (q (.fieldLink tN 24 tN "suppressedExceptions" listD) (by simp [throwableAtoms]) (by simp [W24])) (show (Cond.lays rc tN "suppressedExceptions" listD).holds args s none s [] = true from wP) pl h3
  obtain ⟨c13, i13, f13, aS, cS, v1, v2, v3, v4, -, -, v5, v6, v7, -, -, v8⟩ := Cond.ownStatic (t := .array (.object "java/lang/StackTraceElement")) fc fk (by decide +kernel) (q (.fieldLink tN 13 tN "UNASSIGNED_STACK" steD) (by simp [throwableAtoms]) (by simp [W24])) (q (.laysStatic tN "UNASSIGNED_STACK" steD) (by simp [throwableAtoms]) (by simp [W24])) pl h3
  obtain ⟨c20, i20, f20, _, _, x1, x2, x3, x4, -, -, -, -, -, -, -, x5⟩ := Cond.ownStatic (t := .object "java/util/List") fc fk (by decide +kernel) (q (.fieldLink tN 20 tN "SUPPRESSED_SENTINEL" listD) (by simp [throwableAtoms]) (by simp [W24])) (q (.laysStatic tN "SUPPRESSED_SENTINEL" listD) (by simp [throwableAtoms]) (by simp [W24])) pl h3
  obtain ⟨_, _, cM, kM, iM, fM, _, _, M1, M2, M3, _⟩ := Cond.lays_spec (q (.lays tN tN "detailMessage" "Ljava/lang/String;") (by simp [throwableAtoms]) (by simp [W24]))
  obtain ⟨cR, kR, _, _, _, _, R1, R2, -⟩ := Cond.lays_spec (show (Cond.lays rc tN "suppressedExceptions" listD).holds args s none s [] = true from wP)
  obtain ⟨-, dP, P1, P2⟩ := Cond.laysAt R1 R2 u8 (show (Cond.lays rc tN "suppressedExceptions" listD).holds args s none s [] = true from wP)
  obtain ⟨-, dS, S1, S2⟩ := Cond.laysAt R1 R2 t8 (show (Cond.lays rc tN "stackTrace" steD).holds args s none s [] = true from wS)
  have ap : f17.slot ≠ f24.slot := Cond.laysApart S1 P1 S2 P2 (by rw [t6, u6]; decide)
  have pF : mF.sig.parameters = [] := by
    have : (parseMethodDescriptor tFill.desc).map (·.parameters) = some [] := by decide +kernel
    rw [g7] at this; simpa using this
  have p0 : n0.sig.parameters = [.int] := by
    have : (parseMethodDescriptor tFill0.desc).map (·.parameters) = some [.int] := by decide +kernel
    rw [a6] at this; simpa using this
  have pO : o.sig.parameters = [] := by
    have : (parseMethodDescriptor oInit.desc).map (·.parameters) = some [] := by decide +kernel
    rw [p6] at this; simpa using this
  refine ⟨{ cT := c, kT := k, cO := c, aS := aS, fillIdx := iF, fill0Idx := i0, initSIdx := iZ, obj := mO, kObj := kO, methFill := mF, methFill0 := n0, methInitS := mZ, methObj := o, codeFill := cF, codeInitS := cZ, codeObj := cO, fBack := f7, fDepth := f7, fStack := f17, fCause := f7, fSupp := f24, fMsg := fM, fUnassigned := f13, fSentinel := f20, cfT := cf, ci1 := c1, n1 := m1, ci27 := c27, n27 := m27, ci202 := c202, n202 := m202, ci7 := c7, i7 := i7, ci13 := c13, i13 := i13, ci17 := c17, i17 := i17, ci20 := c20, i20 := i20, ci24 := c24, i24 := i24 }, ?_, fc, f1, a1, t8, v8, t6, t7⟩
  exact ⟨h1, h2, fk, fn, Vm.findClass_boot fc fk, b3, Cond.initialized_spec fc fk (q (.initialized tN) (by simp [throwableAtoms]) (by simp [W24])), v5, f3, g2, g3, g4, g6, f4, f5, g5, pF, d3, d6, d7, p0, d4, a3, a4, a5, d5, t4, t5, v4, r1, r2, o2, r3, o3, o4, by rw [r4]; exact lookupSpecial_of_named o1 o2 o3, by rw [pO]; rfl, p2, p3, p5, s4, s5, x4, u4, u5, M2, M3, ap, l3, l1, l2, l4, l5, l6, l8, l9, l10, l12, s1, s2, s3, v1, v2, v3, t1, t2, t3, x1, x2, x3, u1, u2, u3⟩
end Jvm.Pilot.@@N@@
namespace Jvm.Pilot.@@N@@
open Jvm Jvm.ClassFile Sem Op Lib Jvm.Free Jvm.Stand Jvm.LawKit Jvm.RoadKit Bundle Jvm.Pilot.@@N@@.Jvm.D
/-- Throwable.fillInStackTrace() inside Throwable's constructor: three fields of the receiver are written, one cell is made -/
theorem Run.fill {Z : State} {a0 : Array Value} {EL : List (String × Nat)} {sv : Option Value → Heap → Addr → Prop} {kx : Bool} {p : Program} {l : Launch} {e : Env} {R : Room} {s : State} {m : MethodId} {args : Array Value} {below : List Frame} {meth : Method} {c : Code} {own : String} {bytes : ByteArray} {maxL : Nat} {rt : Option FieldType} {nm : String} {h0 : Heap} {ws sf : List Addr} {T : State} {h : Heap} {locs : List Loc} {cells slots : Nat} {Q : Option Value → Heap → Prop} {kc ks : Nat} {rc : String} {n pc W : Nat} {Ls : Array Slot} {rest : List Value} {a u : Addr} (X : Sit Z a0 EL true p l e R s m args below meth c own bytes maxL rt nm h0 ws sf T h locs cells slots) (hown : own = tN) (O : Ext Z.heap h0) (hl : l.stackTraces = true)
    (wE : ∀ d ∈ Exc.excAtoms rc, d ≠ W24 → d.before a0 Z = true) (wi : (Cond.instantiable rc n).before a0 Z = true) (hrc : rc ≠ tN)
    (E : Exa Z h a rc) (N : Unt h a) (FS : Fld Z h a tN "stackTrace" steD (.ref u)) (FB : Fld Z h a tN "backtrace" Exc.obD .null) (FM : Fld Z h a tN "detailMessage" Exc.msgD .null) (SU : Sta Z Z.heap tN "UNASSIGNED_STACK" steD (.ref u)) (hx : a ∈ ws ∨ h0.size ≤ a) (hz : Z.heap.size ≤ a) (hsf : a ∈ sf) (hsz : Ls.size = maxL) (hd : decode bytes pc = .ok (.invokevirtual 27, 3))
    (hW : (rest.map fun v => v.category).sum ≤ W) (hf : 2 < R.frames) (hlo : W + 42 ≤ R.locals) (hc : cells + 1 ≤ R.cells) (hsl : slots + 2752 ≤ R.slots)
    (k : ∀ (T' : State) (h' : Heap) (L : List Loc), Sit Z a0 EL true p l e R s m args below meth c own bytes maxL rt nm h0 ws sf T' h' (locs ++ L) (cells + 1) (slots + 2752) → Keep h h' [a] → Fld Z h' a tN "detailMessage" Exc.msgD .null → Run Z EL sv p e below s h0 ws Q kc ks T' (mkF m (pc + 3) Ls (.ref a :: rest))) : Run Z EL sv p e below s h0 ws Q kc ks T (mkF m pc Ls (.ref a :: rest)) := by
  obtain ⟨kn1, kn2, kn3⟩ := X.kno rfl
  obtain ⟨T', h', L', X', K, F', sp⟩ := X.go (k := cells + 1) (n := slots + 2752) (wz := [a]) (Q' := fun T' h' _ => Fld Z h' a tN "detailMessage" Exc.msgD .null ∧ ∀ t, Steps p.tables e below (T'.setTop (mkF m (pc + 3) Ls (.ref a :: rest))) t → Steps p.tables e below (T.setTop (mkF m pc Ls (.ref a :: rest))) t) (fun y hy => by cases List.mem_singleton.mp hy; exact ⟨hx, hz⟩) (fun vm0 al hs y hy => by cases List.mem_singleton.mp hy; exact hs a hsf) fun vm0 Y hZ ho => by
    have al : s.vm.Alike vm0 := by obtain ⟨-, vm1, k0, Y1, r1, -, S1, -⟩ := id X; exact (S1.1.alike.trans r1.alike.symm).trans hZ.alike
    have hT0 : ThS Z (s.setVm vm0).heap := by show ThS Z s.heap; rw [kn3]; exact ThS.start.ext O
    have w : ∀ d ∈ Exc.excAtoms rc, d ≠ W24 → d.before args (s.setVm vm0) = true := fun d hd hne => mvX hT0 hZ (List.all_eq_true.mp exc_ok d hd) (wE d hd hne)
    have hpl := Y.admits.platform
    have htr : e.platform.stackTraces = true := by rw [hpl]; exact hl
    have hmg : e.platform.magicAccessors = ({} : Platform).magicAccessors := by rw [hpl]
    obtain ⟨Th, L, q1, q2, q3, q4, q5, q6, q7⟩ := thrLinks (pl := e.platform) (rc := rc) (by rw [hpl]) (by rw [hpl]) hmg (fun d hd hne => w d (by simp [Exc.excAtoms, hd]) hne) (w _ (by simp [Exc.excAtoms]) (by simp [W24, hrc])) (w _ (by simp [Exc.excAtoms]) (by simp [W24]))
    obtain ⟨cell, kZ, e1, e2, e3, e4, e5⟩ := id E
    obtain ⟨cell2, n1, n2, n3⟩ := id N
    cases e1.symm.trans n1
    have hfound : (s.setVm vm0).vm.findClass rc = some cell.cls := by rw [hZ.alike.findClass]; exact e2
    obtain ⟨cX, kX, i1, i2, i3, -, -, -⟩ := Cond.instantiable_spec (mv (s := s.setVm vm0) (args := args) hZ wi)
    cases i1.symm.trans hfound
    have hsize : cell.slots.size = kX.instanceTypes.size := by
      obtain ⟨k', g1, g2⟩ := hZ.alike.2.2 _ _ e3
      cases g1.symm.trans i2
      rw [g2] at i3 ⊢
      exact e5 i3
    have tk : ∀ {f : Field} {v : Value}, kX.instanceTypes[f.slot]? = some f.type → fits f.type v = true → Jvm.Takes (s.setVm vm0) cell f v := fun {f v} j1 j2 => by
      obtain ⟨r1, r2⟩ := Takes.of_laid (s := s.setVm vm0) (v := v) i2 i3 j1 j2
      refine ⟨by rw [hsize]; simpa using r1, ?_⟩
      rw [n2]; exact r2
    obtain ⟨cS1, cfS, kS, iS, fS, a1, a2, -, -, -, -, a3⟩ := FS
    cases e1.symm.trans a1
    obtain ⟨kS', a4, -⟩ := State.fieldFound?_setVm hZ.alike a2
    have eS : fS = Th.fStack := by have := Option.some.inj (a4.symm.trans q4); simp only [Prod.mk.injEq] at this; exact this.2.2.2
    subst eS
    obtain ⟨cB1, cfB, kB, iB, fB, b1, b2, -, -, -, -, b3⟩ := FB
    cases e1.symm.trans b1
    obtain ⟨kB', b4, -⟩ := State.fieldFound?_setVm hZ.alike b2
    obtain ⟨cM1, cfM, kM, iM, fM, m1, m2, m3, m4, m5, m6, m7⟩ := id FM
    cases e1.symm.trans m1
    obtain ⟨kM', m8, -⟩ := State.fieldFound?_setVm hZ.alike m2
    obtain ⟨cfU, iU, kU, fU, stU, cellS, u1, u2, u3, u4, u5, u6, u7⟩ := SU.ext X.old
    obtain ⟨kU', u8, u9⟩ := State.fieldFound?_setVm hZ.alike u1
    have eU : kU' = Th.kT ∧ fU = Th.fUnassigned := by have := Option.some.inj (u8.symm.trans q5); simp only [Prod.mk.injEq] at this; exact ⟨this.2.1, this.2.2.2⟩
    obtain ⟨eU1, rfl⟩ := eU
    have eSt : stU = Th.aS := by
      have h1 := L.statics
      rw [← eU1, u9] at h1
      exact Option.some.inj (u4.symm.trans h1)
    subst eSt
    have hneS : Th.aS ≠ a := fun z => by rw [z] at u5; cases e1.symm.trans u5; rw [e4] at u6; cases u6
    obtain ⟨c198, i198, f198, d1, d2, d3, d4, -, d5, d6, d7⟩ := Cond.ownField (t := .object "java/lang/Object") q1 L.cls (by decide +kernel) (w (.fieldLink tN 198 tN "backtrace" Exc.obD) (by simp [Exc.excAtoms]) (by simp [W24])) (w (.lays tN tN "backtrace" Exc.obD) (by simp [Exc.excAtoms]) (by simp [W24])) e.platform hmg
    have eB : fB = f198 := by have := Option.some.inj (b4.symm.trans d7); simp only [Prod.mk.injEq] at this; exact this.2.2.2
    subst eB
    obtain ⟨_, _, cD, kD, iD, fD, -, -, x1, x2, -, -⟩ := Cond.lays_spec (w (.lays rc tN "depth" "I") (by simp [Exc.excAtoms]) (by simp [W24]))
    cases (Cond.lays_declared (w (.lays rc tN "depth" "I") (by simp [Exc.excAtoms]) (by simp [W24])) x1).symm.trans q1
    obtain ⟨x3, x4⟩ := State.fieldFound?_spec x1
    cases x3.symm.trans L.cls
    obtain ⟨x5, x6⟩ := State.fieldFound?_type x1 (t := .int) (by decide +kernel)
    have hfb := Cond.soleField_find q1 L.cls (w (.soleField tN "backtrace") (by simp [Exc.excAtoms]) (by simp [W24])) d3 d5 d4
    have hfd := Cond.soleField_find q1 L.cls (w (.soleField tN "depth") (by simp [Exc.excAtoms]) (by simp [W24])) x4 x5 x2
    obtain ⟨comp, cO, kO, -, -, y1, y2, y3⟩ := Cond.arrayOver_spec (w (.arrayOver (.object "java/lang/Object")) (by simp [Exc.excAtoms]) (by simp [W24]))
    obtain ⟨tS, dS, s1, s2⟩ := Cond.laysAt hfound i2 q4 (w (.lays rc tN "stackTrace" steD) (by simp [Exc.excAtoms]) (by simp [W24]))
    obtain ⟨tB, dB, s3, s4⟩ := Cond.laysAt hfound i2 d7 (w (.lays rc tN "backtrace" Exc.obD) (by simp [Exc.excAtoms]) (by simp [W24]))
    obtain ⟨tD, dD, s5, s6⟩ := Cond.laysAt hfound i2 x1 (w (.lays rc tN "depth" "I") (by simp [Exc.excAtoms]) (by simp [W24]))
    obtain ⟨tM, dM, s7, s8⟩ := Cond.laysAt hfound i2 m8 (w (.lays rc tN "detailMessage" Exc.msgD) (by simp [Exc.excAtoms]) (by simp [W24]))
    have nmM : fM.name = "detailMessage" := (State.fieldFound?_type m8 (t := .object "java/lang/String") (by decide +kernel)).1
    have mS := Cond.laysApart s7 s1 s8 s2 (by rw [nmM, q6]; decide)
    have mB := Cond.laysApart s7 s3 s8 s4 (by rw [nmM, d5]; decide)
    have mD := Cond.laysApart s7 s5 s8 s6 (by rw [nmM, x5]; decide)
    obtain ⟨c2, r2, m2', z1, z2, z3, z4, -⟩ := Cond.selects_spec (w (.selects rc tFill0 tFill0) (by simp [Exc.excAtoms]) (by simp [W24]))
    cases z1.symm.trans hfound
    cases z2.symm.trans (State.methodFound?_of_named q3 (by decide))
    cases z3.symm.trans q3
    have hsel0 : selectMethod e.platform (s.setVm vm0).vm cell.cls Th.fill0 = .method Th.fill0 := by rw [Launch.admits_selectMethod Y.admits]; exact z4
    have hSE := w (.selects rc tFill tFill) (by simp [Exc.excAtoms]) (by simp [W24])
    subst hown
    obtain ⟨v, vm', ⟨T', L6, c6, n6⟩, hW6, Y', ⟨hv, vmx, lines, hlines, hWx, hU, hL, hcq, hnq⟩, come⟩ := Y.virtualBack X.ex (own := tN) (C := rc) (index := 27) (y := tFill) (z := tFill) ho (w (.methodLink tN 27 tFill) (by simp [Exc.excAtoms, throwableAtoms]) (by simp [W24])) (w (.declares tFill) (by simp [Exc.excAtoms]) (by simp [W24])) (notFace_of_selects hSE) hSE (w (.instanceMethod tFill) (by simp [Exc.excAtoms, throwableAtoms]) (by simp [W24])) (by decide)
      (Jvm.Free.Str.fillPays (l := l) (W := W) X.ex htr Th L q2 (u0 := ⟨.ref u, rfl⟩) (by simp) (self := a) (cell := cell) (cellS := cellS) (fun _ => by rw [n2]; simp) (by rw [n2]; simp) (by rw [n3]) (by rw [n3]) a3 hsel0 hneS (fun z => by rw [z] at u6; cases u6) u7 (tk tS (by rw [q7]; rfl))
        ⟨{ ci198 := c198, i198 := i198, fBack := fB }, ⟨d1, d2, d3, d4⟩, b3⟩ (Vm.MethodsKnown.alikeC al kn1) (Vm.FramesKnown.alikeC al kn2) q1 y3 y1 y2 hfb hfd (fun x => tk tB (by rw [d6]; rfl)) (fun x => tk tD (by rw [x6]; rfl)) hf hlo)
      (b := a) (cB := cell.cls) hfound ⟨cell, by rw [X.eh]; exact e1, rfl, by rw [n2]; rfl⟩ (g := mkF m pc Ls (.ref a :: rest)) rfl (hsz.trans X.ml.symm) (Steps.refl _) (argsL := []) (rest := rest)
      (fun sig h => by rw [show parseMethodDescriptor tFill.desc = some ⟨[], some (.object tN)⟩ from by decide +kernel] at h; rw [← Option.some.inj h]; rfl) rfl (by show 2 * 0 + _ ≤ _; omega) (X.de hd)
      (fun vmx hWx => ⟨rfl, hc, hsl, by show T.heap[a]? = _; rw [X.eh]; exact e1, by show T.heap[Th.aS]? = _; rw [X.eh]; exact u5⟩)
    dsimp only [Pt.U, Pt.locs, Pt.cells, Pt.slots] at Y' hU hL hcq hnq come
    subst hv hL hcq hnq
    have ha : @LT.lt Nat _ a h.size := (Array.getElem?_eq_some_iff.mp e1).1
    have hle : (traceHolder cO lines).slots.size ≤ 2752 := traceHolder_size_le cO hlines
    have hh : T'.heap = (h.push (traceHolder cO lines)).setIfInBounds a (Jvm.Free.Str.filledOn Th.toThrowableT fB fD cell ⟨.ref u, rfl⟩ h.size lines.length.toInt32) := by rw [hU, ← X.eh]; rfl
    have hA : T'.heap[a]? = some (Jvm.Free.Str.filledOn Th.toThrowableT fB fD cell ⟨.ref u, rfl⟩ h.size lines.length.toInt32) := by rw [hh, Array.getElem?_setIfInBounds_self_of_lt (by rw [Array.size_push]; exact Nat.lt_succ_of_lt ha)]
    have hB : ∀ (x : Addr) (cx : Cell), h[x]? = some cx → x ≠ a → T'.heap[x]? = some cx := fun x cx hx hne => by
      rw [hh, Array.getElem?_setIfInBounds_ne (Ne.symm hne), Array.getElem?_push_lt (Array.getElem?_eq_some_iff.mp hx).1]
      exact (Array.getElem?_eq_getElem _).symm.trans hx
    refine ⟨T', T'.heap, _, Y'.mono (Nat.le_refl _) (Nat.add_le_add_left hle _), rfl, ⟨?_, fun x cx hx hne => hB x cx hx (fun z => hne (by simp [z])), fun x cx hq => ?_⟩, ?_, ⟨_, cfM, kM, iM, fM, hA, m2, m3, by show cell.vm ≠ _; rw [n2]; simp, by show cell.vm.isStatics = false; exact e4, m6, ?_⟩, fun t ht => come.trans ht⟩
    · rw [hh]; simp
    · by_cases z : x = a
      · subst z
        cases e1.symm.trans hq
        exact ⟨_, hA, rfl, rfl, by simp [Jvm.Free.Str.filledOn, Cell.setSlot]⟩
      · exact ⟨cx, hB x cx hq z, rfl, rfl, rfl⟩
    · intro y hy
      simp only [List.mem_cons, List.not_mem_nil, or_false] at hy
      rcases hy with rfl | rfl | rfl <;> exact hz
    · simp [Jvm.Free.Str.filledOn, Cell.setSlot, Array.getElem?_setIfInBounds, Ne.symm mS, Ne.symm mB, Ne.symm mD, m7]
  exact Run.via sp (k T' h' L' X' K F')
end Jvm.Pilot.@@N@@
-- part own
namespace Jvm.Pilot.@@N@@
open Jvm Jvm.ClassFile Sem Op Lib Jvm.Free Jvm.Stand Jvm.LawKit Jvm.RoadKit Bundle Jvm.Pilot.@@N@@.Jvm.D
theorem setsOf {s : State} {args : Array Value} (hsets : ∀ d ∈ jdkStatics_1, d.before args s = true) : Sets s := by
  have n5 := not_v (Cond.before_iff.mp (hsets _ (List.mem_of_getElem? (i := 2) rfl)))
  obtain ⟨i1, e1⟩ := is_v (Cond.before_iff.mp (hsets _ (List.mem_of_getElem? (i := 1) rfl)))
  obtain ⟨v3, e3, r3⟩ := isR_v (Cond.before_iff.mp (hsets _ (List.mem_of_getElem? (i := 8) rfl)))
  exact ⟨i1, v3, Sta.start e1 (Or.inl (hsets _ (List.mem_of_getElem? (i := 0) rfl))), gotF (Cond.eq_ints e1 (Term.int_eval (0))) n5, Sta.start e3 (Or.inl (hsets _ (List.mem_of_getElem? (i := 7) rfl))), r3⟩
theorem ls0 {P : Int32 → Prop} : ∀ c ∈ ([] : List Int32), P c := fun _ q => nomatch q
theorem lsS {P : Int32 → Prop} {y : Int32} {L : List Int32} (q : P y) (r : ∀ c ∈ L, P c) : ∀ c ∈ y :: L, P c := fun x z => (List.mem_cons.mp z).elim (fun u => u ▸ q) (r x)
theorem nar_lat {c : Int32} (h : ¬ c < 0 ∧ ¬ (255 : Int32) < c) : nar .char c = c := nar_char ⟨h.1, fun q => h.2 (by rw [Int32.lt_iff_toInt_lt] at q ⊢; have e1 : (65535 : Int32).toInt = 65535 := rfl; have e2 : (255 : Int32).toInt = 255 := rfl; omega)⟩

theorem i32lt {a b : Nat} (ha : a ≤ 100000) (hb : b ≤ 100000) : Int32.ofNat a < Int32.ofNat b ↔ a < b := by
  have e1 : (Int32.ofNat a).toInt = a := Int32.toInt_ofNat_small (by omega)
  have e2 : (Int32.ofNat b).toInt = b := Int32.toInt_ofNat_small (by omega)
  rw [Int32.lt_iff_toInt_lt, e1, e2]; omega
theorem i32eq {a b : Nat} (ha : a ≤ 100000) (hb : b ≤ 100000) : Int32.ofNat a = Int32.ofNat b ↔ a = b := by
  have e1 : (Int32.ofNat a).toInt = a := Int32.toInt_ofNat_small (by omega)
  have e2 : (Int32.ofNat b).toInt = b := Int32.toInt_ofNat_small (by omega)
  rw [← Int32.toInt_inj, e1, e2]; omega
theorem i32of {x : Int32} {n : Nat} (h : x.toInt = n) (hn : n ≤ 100000) : x = Int32.ofNat n := by
  apply Int32.toInt_inj.mp; rw [h, Int32.toInt_ofNat_small (by omega)]
theorem i32n {n : Nat} (hn : n ≤ 100000) : (Int32.ofNat n).toInt = n := Int32.toInt_ofNat_small (by omega)
theorem i32add {a b : Nat} (h : a + b ≤ 100000) : Int32.ofNat a + Int32.ofNat b = Int32.ofNat (a + b) := by
  apply i32of _ h
  have q := c_iadd (Int32.ofNat a) (Int32.ofNat b); have r := rng32 (Int32.ofNat a + Int32.ofNat b)
  rw [i32n (by omega), i32n (by omega)] at q; omega
theorem i32succ {a : Nat} (h : a < 100000) : Int32.ofNat a + (1 : Int32) = Int32.ofNat (a + 1) := i32add (b := 1) h
theorem shl1 {n : Nat} (h : n ≤ 10000) : Int32.ofNat n <<< ((1 : Int32) &&& 31) = Int32.ofNat (2 * n) := by
  apply i32of _ (by omega)
  have q := c_ishl (Int32.ofNat n) 1 1 (by decide); have r := rng32 (Int32.ofNat n <<< ((1 : Int32) &&& 31))
  rw [i32n (by omega)] at q; omega
theorem mem_getD {cs : List Int32} {i : Nat} (h : i < cs.length) : cs.getD i 0 ∈ cs := by rw [List.getD_eq_getElem?_getD, List.getElem?_eq_getElem h]; exact List.getElem_mem h
theorem i32pred {a : Nat} (h0 : 0 < a) (h : a ≤ 100000) : Int32.ofNat a - (1 : Int32) = Int32.ofNat (a - 1) := by
  apply i32of _ (by omega)
  have q := c_isub (Int32.ofNat a) 1; have r := rng32 (Int32.ofNat a - 1)
  rw [i32n (by omega)] at q; have : (1 : Int32).toInt = 1 := rfl; omega
theorem i32sub {a b : Nat} (h0 : b ≤ a) (h : a ≤ 100000) : Int32.ofNat a - Int32.ofNat b = Int32.ofNat (a - b) := by
  apply i32of _ (by omega)
  have q := c_isub (Int32.ofNat a) (Int32.ofNat b); have r := rng32 (Int32.ofNat a - Int32.ofNat b)
  rw [i32n (by omega), i32n (by omega)] at q; omega
theorem i32zero (x : Int32) : x + (0 : Int32) = x := by
  apply Int32.toInt_inj.mp
  have q := c_iadd x 0; have r := rng32 (x + 0); have r' := rng32 x; have : (0 : Int32).toInt = 0 := rfl; omega
theorem lo8_in {x y : Int32} (hx : ¬ x < 0 ∧ ¬ (255 : Int32) < x) (hy : ¬ y < 0 ∧ ¬ (255 : Int32) < y) (h : StrChars.lo8 x = StrChars.lo8 y) : x = y := by
  apply Int32.toInt_inj.mp
  obtain ⟨a1, a2, a3⟩ := c_i2b x
  obtain ⟨b1, b2, b3⟩ := c_i2b y
  have e1 : StrChars.lo8 x = x.toInt8.toInt32 := rfl
  have e2 : StrChars.lo8 y = y.toInt8.toInt32 := rfl
  rw [e1, e2] at h; rw [h] at a1
  simp only [Int32.lt_iff_toInt_lt] at hx hy
  have : (0 : Int32).toInt = 0 := rfl; have : (255 : Int32).toInt = 255 := rfl; omega
theorem map_getD (cs : List Int32) (i : Nat) (hi : i < cs.length) : (cs.map StrChars.lo8).getD i 0 = StrChars.lo8 (cs.getD i 0) := by
  simp [List.getD_eq_getElem?_getD, List.getElem?_eq_getElem hi]
/-- a Latin-1 text -/
def Lat (cs : List Int32) : Prop := ∀ c ∈ cs, ¬ c < 0 ∧ ¬ (255 : Int32) < c
theorem Str.lat {Z : State} {h : Heap} {a : Addr} {cs : List Int32} (S : Str Z h a cs) (hl : Lat cs) : Exa Z h a "java/lang/String" ∧ cs.length ≤ 4000 ∧ ∃ t : Addr, Fld Z h a "java/lang/String" "value" "[B" (.ref t) ∧ Fld Z h a "java/lang/String" "coder" "B" (.int 0) ∧ Arc .byte Z h t (cs.map StrChars.lo8) := by
  obtain ⟨E, t, kb, cd, N2, vs, V, C, A, r1, r2, r3⟩ := S
  rcases r1 with ⟨rfl, rfl, rfl, q⟩ | ⟨rfl, rfl, rfl, c, hc, q⟩
  · refine ⟨E, r3, t, V, C, ⟨kb, ?_, by simpa using r3⟩⟩
    simpa [List.map_map, Function.comp_def] using A
  · exact absurd q (hl c hc).2
theorem Str.ofLat {Z : State} {h : Heap} {a t : Addr} {cs : List Int32} (E : Exa Z h a "java/lang/String") (V : Fld Z h a "java/lang/String" "value" "[B" (.ref t)) (C : Fld Z h a "java/lang/String" "coder" "B" (.int 0)) (A : Arc .byte Z h t (cs.map StrChars.lo8)) (hl : Lat cs) : Str Z h a cs := by
  obtain ⟨k, A, r⟩ := A
  refine ⟨E, t, k, 0, _, _, V, C, A, Or.inl ⟨rfl, by simp, by simp [List.map_map, Function.comp_def], fun c hc => (hl c hc).2⟩, up _ hl, by simpa using r⟩
theorem Lat.sub {cs : List Int32} (h : Lat cs) (b n : Nat) : Lat ((cs.drop b).take n) := fun c hc => h c (List.mem_of_mem_drop (List.mem_of_mem_take hc))
theorem fld_inj {Z : State} {h : Heap} {a x y : Addr} {C n d : String} (F : Fld Z h a C n d (.ref x)) (G : Fld Z h a C n d (.ref y)) : x = y := Decidable.byContradiction fun z => F.ne G (fun e => z (by cases e; rfl)) rfl
theorem shr0' (x : Int32) : x >>> ((0 : Int32) &&& 31) = x := by
  apply Int32.toInt_inj.mp
  have : ((0 : Int32) &&& 31) = 0 := by decide
  rw [this]; simp
theorem shl0' (x : Int32) : x <<< ((0 : Int32) &&& 31) = x := by
  apply Int32.toInt_inj.mp
  have : ((0 : Int32) &&& 31) = 0 := by decide
  rw [this]; simp
theorem sub_pos {a b : Nat} (ha : a ≤ 100000) (hb : b ≤ 100000) : (0 : Int32) < Int32.ofNat a - Int32.ofNat b ↔ b < a := by
  have q := c_isub (Int32.ofNat a) (Int32.ofNat b); have r := rng32 (Int32.ofNat a - Int32.ofNat b)
  rw [i32n ha, i32n hb] at q
  rw [Int32.lt_iff_toInt_lt]
  have : (0 : Int32).toInt = 0 := rfl
  omega
/-- a StringBuilder as 'new' leaves it; one that holds cs, with room for n more -/
def SBR (Z : State) (h : Heap) (b : Addr) : Prop := Exa Z h b "java/lang/StringBuilder" ∧ Fld Z h b "java/lang/AbstractStringBuilder" "value" "[B" .null ∧ Fld Z h b "java/lang/AbstractStringBuilder" "coder" "B" (.int 0) ∧ Fld Z h b "java/lang/AbstractStringBuilder" "count" "I" (.int 0)
def SB (Z : State) (h : Heap) (b t : Addr) (cs : List Int32) (n : Nat) : Prop := Exa Z h b "java/lang/StringBuilder" ∧ Fld Z h b "java/lang/AbstractStringBuilder" "value" "[B" (.ref t) ∧ Fld Z h b "java/lang/AbstractStringBuilder" "coder" "B" (.int 0) ∧ Fld Z h b "java/lang/AbstractStringBuilder" "count" "I" (.int (Int32.ofNat cs.length)) ∧ Arc .byte Z h t (cs.map StrChars.lo8 ++ List.replicate n 0) ∧ Exa Z h t "[B"
theorem SB.keep {Z : State} {h h' : Heap} {b t : Addr} {cs : List Int32} {n : Nat} (S : SB Z h b t cs n) (K : Keep h h' []) : SB Z h' b t cs n := ⟨S.1.keep K, S.2.1.keep K nin0, S.2.2.1.keep K nin0, S.2.2.2.1.keep K nin0, S.2.2.2.2.1.keep K nin0, S.2.2.2.2.2.keep K⟩
theorem SB.cap {Z : State} {h : Heap} {b t : Addr} {cs : List Int32} {n : Nat} (S : SB Z h b t cs n) : cs.length + n ≤ 4000 := by
  obtain ⟨_, _, r⟩ := S.2.2.2.2.1; simpa using r
theorem sb_len (cs : List Int32) (n : Nat) : (cs.map StrChars.lo8 ++ List.replicate n (0 : Int32)).length = cs.length + n := by rw [List.length_append, List.length_map, List.length_replicate]
theorem app_bytes (cs ds : List Int32) (n : Nat) (h : ds.length ≤ n) : (cs.map StrChars.lo8 ++ List.replicate n (0 : Int32)).take cs.length ++ ds.map StrChars.lo8 ++ (cs.map StrChars.lo8 ++ List.replicate n (0 : Int32)).drop (cs.length + ds.length) = (cs ++ ds).map StrChars.lo8 ++ List.replicate (n - ds.length) 0 := by
  have e1 : cs.length = (cs.map StrChars.lo8).length := by rw [List.length_map]
  rw [e1, List.take_left, ← e1, List.drop_append, List.drop_of_length_le (by simp), List.nil_append, List.length_map, Nat.add_sub_cancel_left, List.drop_replicate, List.map_append]
theorem take_lo8 (cs : List Int32) (n : Nat) : (cs.map StrChars.lo8 ++ List.replicate n (0 : Int32)).take cs.length = cs.map StrChars.lo8 := by
  have e1 : cs.length = (cs.map StrChars.lo8).length := by rw [List.length_map]
  rw [e1, List.take_left]
/-- the builder's array is nobody's literal -/
theorem Str.keepB {Z : State} {h h' : Heap} {a b : Addr} {cs : List Int32} {a0 : Array Value} (S : Str Z h a cs) (K : Keep h h' [b]) (E : Exa Z h b "java/lang/StringBuilder") (wi : (Cond.instantiable "java/lang/String" 4).before a0 Z = true) (wb : (Cond.instantiable "java/lang/StringBuilder" 4).before a0 Z = true) : Str Z h' a cs := by
  obtain ⟨E', t, kb, cd, N2, vs, V, C, B, r⟩ := S
  have n1 : a ≠ b := E'.ne E (by decide)
  have n2 : t ≠ b := Ne.symm (E.neArv B wb)
  exact ⟨E'.keep K, t, kb, cd, N2, vs, V.keep K (ninS n1 nin0), C.keep K (ninS n1 nin0), B.keep K (ninS n2 nin0), r⟩
theorem two_ws {Z : State} {h0 : Heap} {b t : Addr} (hb : Z.heap.size ≤ b) (ht : Z.heap.size ≤ t) : ∀ x ∈ [b, t], (x ∈ [b, t] ∨ h0.size ≤ x) ∧ Z.heap.size ≤ x := fun x hx => ⟨Or.inl hx, by
  rcases List.mem_cons.mp hx with rfl | hx
  · exact hb
  · cases List.mem_singleton.mp hx; exact ht⟩
def svB (Z : State) (b : Addr) : Option Value → Heap → Addr → Prop := fun _ h x => Fld Z h b "java/lang/AbstractStringBuilder" "value" "[B" (.ref x)
theorem latTX : Lat ([58, 32, 116, 104, 101, 32, 118, 97, 114, 105, 97, 98, 108, 101, 32, 104, 97, 115, 32, 110, 111, 32, 118, 97, 108, 117, 101, 32, 104, 101, 114, 101] : List Int32) := lsS (by decide) (lsS (by decide) (lsS (by decide) (lsS (by decide) (lsS (by decide) (lsS (by decide) (lsS (by decide) (lsS (by decide) (lsS (by decide) (lsS (by decide) (lsS (by decide) (lsS (by decide) (lsS (by decide) (lsS (by decide) (lsS (by decide) (lsS (by decide) (lsS (by decide) (lsS (by decide) (lsS (by decide) (lsS (by decide) (lsS (by decide) (lsS (by decide) (lsS (by decide) (lsS (by decide) (lsS (by decide) (lsS (by decide) (lsS (by decide) (lsS (by decide) (lsS (by decide) (lsS (by decide) (lsS (by decide) (lsS (by decide) (ls0))))))))))))))))))))))))))))))))
theorem getD_app (nl tx : List Int32) (k : Nat) : (nl ++ tx).getD (nl.length + k) 0 = tx.getD k 0 := by
  rw [List.getD_eq_getElem?_getD, List.getD_eq_getElem?_getD, List.getElem?_append_right (by omega), Nat.add_sub_cancel_left]
theorem and_3 (x : Int32) : (x &&& 3) = 0 ∨ (x &&& 3) = 1 ∨ (x &&& 3) = 2 ∨ (x &&& 3) = 3 := by
  have q := c_and x 3 (by decide)
  simp only [← Int32.toInt_inj]
  have : (0 : Int32).toInt = 0 := rfl; have : (1 : Int32).toInt = 1 := rfl; have : (2 : Int32).toInt = 2 := rfl; have : (3 : Int32).toInt = 3 := rfl
  omega
theorem Str.keepO {Z : State} {h h' : Heap} {a b : Addr} {cs : List Int32} {a0 : Array Value} {C : String} {n : Nat} (S : Str Z h a cs) (K : Keep h h' [b]) (E : Exa Z h b C) (hC : "java/lang/String" ≠ C) (wb : (Cond.instantiable C n).before a0 Z = true) : Str Z h' a cs := by
  obtain ⟨E', t, kb, cd, N2, vs, V, C', B, r⟩ := S
  have n1 : a ≠ b := E'.ne E hC
  have n2 : t ≠ b := Ne.symm (E.neArv B wb)
  exact ⟨E'.keep K, t, kb, cd, N2, vs, V.keep K (ninS n1 nin0), C'.keep K (ninS n1 nin0), B.keep K (ninS n2 nin0), r⟩
theorem excW {Z : State} {a0 : Array Value} (hw : ∀ d ∈ tables_1, d.before a0 Z = true) : ∀ d ∈ Exc.excAtoms "com/example/veneer/veneer/VeneerException", d ≠ W24 → d.before a0 Z = true := fun d hd hne => hw d ((by decide +kernel : ∀ d ∈ Exc.excAtoms "com/example/veneer/veneer/VeneerException", d ≠ W24 → d ∈ tables_1) d hd hne)
theorem pd___B : parseMethodDescriptor "()B" = some ⟨[], some .byte⟩ := by decide +kernel
theorem pd___I : parseMethodDescriptor "()I" = some ⟨[], some .int⟩ := by decide +kernel
theorem pd___Ljava_lang_String_ : parseMethodDescriptor "()Ljava/lang/String;" = some ⟨[], some (.object "java/lang/String")⟩ := by decide +kernel
theorem pd___V : parseMethodDescriptor "()V" = some ⟨[], none⟩ := by decide +kernel
theorem pd___Z : parseMethodDescriptor "()Z" = some ⟨[], some .boolean⟩ := by decide +kernel
theorem pd____B : parseMethodDescriptor "()[B" = some ⟨[], some (.array .byte)⟩ := by decide +kernel
theorem pd__I_I : parseMethodDescriptor "(I)I" = some ⟨[.int], some .int⟩ := by decide +kernel
theorem pd__I_V : parseMethodDescriptor "(I)V" = some ⟨[.int], none⟩ := by decide +kernel
theorem pd__II_I : parseMethodDescriptor "(II)I" = some ⟨[.int, .int], some .int⟩ := by decide +kernel
theorem pd__II_V : parseMethodDescriptor "(II)V" = some ⟨[.int, .int], none⟩ := by decide +kernel
theorem pd__III_I : parseMethodDescriptor "(III)I" = some ⟨[.int, .int, .int], some .int⟩ := by decide +kernel
theorem pd__ILjava_lang_String__V : parseMethodDescriptor "(ILjava/lang/String;)V" = some ⟨[.int, (.object "java/lang/String")], none⟩ := by decide +kernel
theorem pd__Ljava_lang_AbstractStringBuilder_Ljava_lang_Void__V : parseMethodDescriptor "(Ljava/lang/AbstractStringBuilder;Ljava/lang/Void;)V" = some ⟨[(.object "java/lang/AbstractStringBuilder"), (.object "java/lang/Void")], none⟩ := by decide +kernel
theorem pd__Ljava_lang_String__Lcom_example_veneer_veneer_VeneerException_ : parseMethodDescriptor "(Ljava/lang/String;)Lcom/example/veneer/veneer/VeneerException;" = some ⟨[(.object "java/lang/String")], some (.object "com/example/veneer/veneer/VeneerException")⟩ := by decide +kernel
theorem pd__Ljava_lang_String__Ljava_lang_AbstractStringBuilder_ : parseMethodDescriptor "(Ljava/lang/String;)Ljava/lang/AbstractStringBuilder;" = some ⟨[(.object "java/lang/String")], some (.object "java/lang/AbstractStringBuilder")⟩ := by decide +kernel
theorem pd__Ljava_lang_String__Ljava_lang_StringBuilder_ : parseMethodDescriptor "(Ljava/lang/String;)Ljava/lang/StringBuilder;" = some ⟨[(.object "java/lang/String")], some (.object "java/lang/StringBuilder")⟩ := by decide +kernel
theorem pd__Ljava_lang_String__V : parseMethodDescriptor "(Ljava/lang/String;)V" = some ⟨[(.object "java/lang/String")], none⟩ := by decide +kernel
theorem pd__Ljava_lang_String_I_Z : parseMethodDescriptor "(Ljava/lang/String;I)Z" = some ⟨[(.object "java/lang/String"), .int], some .boolean⟩ := by decide +kernel
theorem pd__Ljava_lang_StringBuilder__V : parseMethodDescriptor "(Ljava/lang/StringBuilder;)V" = some ⟨[(.object "java/lang/StringBuilder")], none⟩ := by decide +kernel
theorem pd___BI__B : parseMethodDescriptor "([BI)[B" = some ⟨[(.array .byte), .int], some (.array .byte)⟩ := by decide +kernel
theorem pd___BIB_V : parseMethodDescriptor "([BIB)V" = some ⟨[(.array .byte), .int, .byte], none⟩ := by decide +kernel
theorem pd___BII__B : parseMethodDescriptor "([BII)[B" = some ⟨[(.array .byte), .int, .int], some (.array .byte)⟩ := by decide +kernel
theorem pd___C_V : parseMethodDescriptor "([C)V" = some ⟨[(.array .char)], none⟩ := by decide +kernel
theorem pd___CIILjava_lang_Void__V : parseMethodDescriptor "([CIILjava/lang/Void;)V" = some ⟨[(.array .char), .int, .int, (.object "java/lang/Void")], none⟩ := by decide +kernel
-- part con_n4e
theorem n4d_0 : decode jdk_42_method_149_code 0 = .ok (.aload_n 0, 1) := by decide +kernel
theorem n4d_1 : decode jdk_42_method_149_code 1 = .ok (.invokespecial 1, 3) := by decide +kernel
theorem n4d_4 : decode jdk_42_method_149_code 4 = .ok (.iload_n 3, 1) := by decide +kernel
theorem n4d_5 : decode jdk_42_method_149_code 5 = .ok (.ifCond .ne 22, 3) := by decide +kernel
theorem n4d_8 : decode jdk_42_method_149_code 8 = .ok (.aload_n 0, 1) := by decide +kernel
theorem n4d_9 : decode jdk_42_method_149_code 9 = .ok (.ldc 7, 2) := by decide +kernel
theorem n4d_11 : decode jdk_42_method_149_code 11 = .ok (.getfield 9, 3) := by decide +kernel
theorem n4d_14 : decode jdk_42_method_149_code 14 = .ok (.putfield 9, 3) := by decide +kernel
theorem n4d_17 : decode jdk_42_method_149_code 17 = .ok (.aload_n 0, 1) := by decide +kernel
theorem n4d_18 : decode jdk_42_method_149_code 18 = .ok (.ldc 7, 2) := by decide +kernel
theorem n4d_20 : decode jdk_42_method_149_code 20 = .ok (.getfield 15, 3) := by decide +kernel
theorem n4d_23 : decode jdk_42_method_149_code 23 = .ok (.putfield 15, 3) := by decide +kernel
theorem n4d_26 : decode jdk_42_method_149_code 26 = .ok (.return_, 1) := by decide +kernel
set_option maxRecDepth 65536 in
set_option maxHeartbeats 40000000 in
theorem con_n4e (l : Launch) {Z : State} {a0 : Array Value} {EL : List (String × Nat)} {h0 : Heap} (hw : ∀ d ∈ tables_1, d.before a0 Z = true) (hN : NW = false) (hm : ("java/lang/String", 7) ∈ EL) {xa ba : Addr} (G : Raw Z h0 xa) (hz : Z.heap.size ≤ xa) (O : Ext Z.heap h0) : Con l Z a0 EL svN false (⟨"java/lang/String", "<init>", "([CIILjava/lang/Void;)V"⟩ : MethodName) jdk_42_method_149_code 6 none ({ frames := 1, cells := 4, slots := 8, locals := 16 } : Room) [xa] [xa] #[(.ref xa), (.ref ba), (.int (0 : Int32)), (.int (0 : Int32)), .null] h0 (fun v h => v = none ∧ Str Z h xa []) := by
  refine Con.enter (plainFor_of_name (by first | (simp [plainName, overriddenIn]; done) | decide +kernel)) O ?_
  intro p e s m below meth c T0 X0
  rw [show entryFrame m #[(.ref xa), (.ref ba), (.int (0 : Int32)), (.int (0 : Int32)), .null] 6 = (mkF m 0 #[.val (.ref xa), .val (.ref ba), .val (.int (0 : Int32)), .val (.int (0 : Int32)), .val .null, .unset] []) from by first | (simp [entryFrame, mkF, argsToLocals, Value.category]; done) | rfl]
  refine Run.via (fun _ => XS.aloadN X0.at X0.ex rfl (X0.de n4d_0) rfl rfl) ?_
  show Run _ _ _ _ _ _ _ _ _ _ _ _ T0 (mkF m 1 #[.val (.ref xa), .val (.ref ba), .val (.int (0 : Int32)), .val (.int (0 : Int32)), .val .null, .unset] [(.ref xa)])
  refine Run.initO X0 (wd hw 11 rfl) (wd hw 12 rfl) (wd hw 13 rfl) rfl n4d_1 (by decide) (Nat.le_of_ble_eq_true rfl) ?_
  intro T101 X101
  show Run _ _ _ _ _ _ _ _ _ _ _ _ T101 (mkF m 4 #[.val (.ref xa), .val (.ref ba), .val (.int (0 : Int32)), .val (.int (0 : Int32)), .val .null, .unset] [])
  refine Run.via (fun _ => XS.iloadN X101.at X101.ex rfl (X101.de n4d_4) rfl) ?_
  show Run _ _ _ _ _ _ _ _ _ _ _ _ T101 (mkF m 5 #[.val (.ref xa), .val (.ref ba), .val (.int (0 : Int32)), .val (.int (0 : Int32)), .val .null, .unset] [(.int (0 : Int32))])
  refine Run.via (fun _ => XS.ifNo X101.at X101.ex rfl (X101.de n4d_5) rfl ((if0 _ _).trans (teq (by decide : ((0 : Int32) = (0 : Int32)))).2)) ?_
  show Run _ _ _ _ _ _ _ _ _ _ _ _ T101 (mkF m 8 #[.val (.ref xa), .val (.ref ba), .val (.int (0 : Int32)), .val (.int (0 : Int32)), .val .null, .unset] [])
  refine Run.via (fun _ => XS.aloadN X101.at X101.ex rfl (X101.de n4d_8) rfl rfl) ?_
  show Run _ _ _ _ _ _ _ _ _ _ _ _ T101 (mkF m 9 #[.val (.ref xa), .val (.ref ba), .val (.int (0 : Int32)), .val (.int (0 : Int32)), .val .null, .unset] [(.ref xa)])
  refine Run.ldcS hw hN X101 (cs := []) (n := 0) (wd hw 14 rfl) hm (by decide) (by decide) (by decide) n4d_9 (by decide) (by decide) (Nat.le_of_ble_eq_true rfl) (Nat.le_of_ble_eq_true rfl) ?_
  intro a102 T102 h102 L102 X102 K102 S102
  show Run _ _ _ _ _ _ _ _ _ _ _ _ T102 (mkF m 11 #[.val (.ref xa), .val (.ref ba), .val (.int (0 : Int32)), .val (.int (0 : Int32)), .val .null, .unset] [(.ref a102), (.ref xa)])
  have hZ1 : Z.heap.size ≤ xa := hz
  have G := G.keep K102 nin0
  obtain ⟨EL1, t1, kb1, cd1, N1, vs1, V1, C1, A1, R1, -⟩ := id S102
  refine Run.getf X102 (wd hw 20 rfl) Via.refl V1 n4d_11 ?_
  intro T103 X103
  show Run _ _ _ _ _ _ _ _ _ _ _ _ T103 (mkF m 14 #[.val (.ref xa), .val (.ref ba), .val (.int (0 : Int32)), .val (.int (0 : Int32)), .val .null, .unset] [(.ref t1), (.ref xa)])
  refine Run.putf X103 (wd hw 20 rfl) Via.refl G.2.1 G.1 (Or.inr ⟨(wd hw 16 rfl), rfl, rfl⟩) (wd hw 1 rfl) (ty := (.array .byte)) (v' := (.ref t1)) (by decide) rfl rfl (Or.inl (List.mem_singleton.mpr rfl)) hz (Or.inr (by simp)) n4d_14 ?_
  intro T104 h104 L104 X104 K104 W104 F104 E104
  show Run _ _ _ _ _ _ _ _ _ _ _ _ T104 (mkF m 17 #[.val (.ref xa), .val (.ref ba), .val (.int (0 : Int32)), .val (.int (0 : Int32)), .val .null, .unset] [])
  have C0 := (G.2.2.other W104 (Or.inr (slot_ne (Or.inr (wd hw 17 rfl)) (Or.inr (wd hw 16 rfl)) (by decide) (t := .byte) (t' := (.array .byte)) (by decide) (by decide))))
  have A1 := A1.keep K104 (ninS (Ne.symm (G.1.neArv A1 (wd hw 1 rfl))) nin0)
  refine Run.via (fun _ => XS.aloadN X104.at X104.ex rfl (X104.de n4d_17) rfl rfl) ?_
  show Run _ _ _ _ _ _ _ _ _ _ _ _ T104 (mkF m 18 #[.val (.ref xa), .val (.ref ba), .val (.int (0 : Int32)), .val (.int (0 : Int32)), .val .null, .unset] [(.ref xa)])
  refine Run.ldcS hw hN X104 (cs := []) (n := 0) (wd hw 14 rfl) hm (by decide) (by decide) (by decide) n4d_18 (by decide) (by decide) (Nat.le_of_ble_eq_true rfl) (Nat.le_of_ble_eq_true rfl) ?_
  intro a105 T105 h105 L105 X105 K105 S105
  show Run _ _ _ _ _ _ _ _ _ _ _ _ T105 (mkF m 20 #[.val (.ref xa), .val (.ref ba), .val (.int (0 : Int32)), .val (.int (0 : Int32)), .val .null, .unset] [(.ref a105), (.ref xa)])
  have C0 := C0.keep K105 nin0
  have F1 := F104.keep K105 nin0
  have E1 := E104.keep K105
  have A1 := A1.keep K105 nin0
  obtain ⟨EL2, t2, kb2, cd2, N2, vs2, V2, C2, A2, R2, -⟩ := id S105
  obtain ⟨rfl, rfl, rfl, -⟩ : cd1 = 0 ∧ N1 = 0 ∧ vs1 = [] ∧ True := by
    obtain ⟨z1, z2, z3, -⟩ | ⟨-, -, -, c, hc, -⟩ := R1
    · exact ⟨z1, z2, z3, trivial⟩
    · cases hc
  obtain rfl : cd2 = 0 := by
    obtain ⟨z1, -⟩ | ⟨-, -, -, c, hc, -⟩ := R2
    · exact z1
    · cases hc
  refine Run.getf X105 (wd hw 21 rfl) Via.refl C2 n4d_20 ?_
  intro T106 X106
  show Run _ _ _ _ _ _ _ _ _ _ _ _ T106 (mkF m 23 #[.val (.ref xa), .val (.ref ba), .val (.int (0 : Int32)), .val (.int (0 : Int32)), .val .null, .unset] [(.int (0 : Int32)), (.ref xa)])
  refine Run.putf X106 (wd hw 21 rfl) Via.refl C0 E1 (Or.inr ⟨(wd hw 17 rfl), rfl, rfl⟩) (wd hw 1 rfl) (ty := .byte) (v' := (.int (0 : Int32))) (by decide) rfl rfl (Or.inl (List.mem_singleton.mpr rfl)) hz (Or.inr (by simp)) n4d_23 ?_
  intro T107 h107 L107 X107 K107 W107 F107 E107
  show Run _ _ _ _ _ _ _ _ _ _ _ _ T107 (mkF m 26 #[.val (.ref xa), .val (.ref ba), .val (.int (0 : Int32)), .val (.int (0 : Int32)), .val .null, .unset] [])
  have F1 := (F1.other W107 (Or.inr (slot_ne (Or.inr (wd hw 16 rfl)) (Or.inr (wd hw 17 rfl)) (by decide) (t := (.array .byte)) (t' := .byte) (by decide) (by decide))))
  have A1 := A1.keep K107 (ninS (Ne.symm (E1.neArv A1 (wd hw 1 rfl))) nin0)
  exact Run.retV X107 rfl n4d_26 (Nat.le_of_ble_eq_true rfl) (Nat.le_of_ble_eq_true rfl) (⟨rfl, E107, t1, kb1, 0, 0, [], F1, F107, A1, Or.inl ⟨rfl, rfl, rfl, ls0⟩, ls0, Nat.zero_le _⟩)
-- part con_n1e
theorem n1d_0 : decode jdk_42_method_3_code 0 = .ok (.aload_n 0, 1) := by decide +kernel
theorem n1d_1 : decode jdk_42_method_3_code 1 = .ok (.aload_n 1, 1) := by decide +kernel
theorem n1d_2 : decode jdk_42_method_3_code 2 = .ok (.iconst 0, 1) := by decide +kernel
theorem n1d_3 : decode jdk_42_method_3_code 3 = .ok (.aload_n 1, 1) := by decide +kernel
theorem n1d_4 : decode jdk_42_method_3_code 4 = .ok (.arraylength, 1) := by decide +kernel
theorem n1d_5 : decode jdk_42_method_3_code 5 = .ok (.aconst_null, 1) := by decide +kernel
theorem n1d_6 : decode jdk_42_method_3_code 6 = .ok (.invokespecial 27, 3) := by decide +kernel
theorem n1d_9 : decode jdk_42_method_3_code 9 = .ok (.return_, 1) := by decide +kernel
set_option maxRecDepth 65536 in
set_option maxHeartbeats 40000000 in
theorem con_n1e (l : Launch) {Z : State} {a0 : Array Value} {EL : List (String × Nat)} {h0 : Heap} (hw : ∀ d ∈ tables_1, d.before a0 Z = true) (hN : NW = false) (hm : ("java/lang/String", 7) ∈ EL) {xa ba : Addr} (G : Raw Z h0 xa) (A : Arc .char Z h0 ba []) (hz : Z.heap.size ≤ xa) (O : Ext Z.heap h0) : Con l Z a0 EL svN false (⟨"java/lang/String", "<init>", "([C)V"⟩ : MethodName) jdk_42_method_3_code 2 none ({ frames := 2, cells := 4, slots := 8, locals := 36 } : Room) [xa] [xa] #[(.ref xa), (.ref ba)] h0 (fun v h => v = none ∧ Str Z h xa []) := by
  refine Con.enter (plainFor_of_name (by first | (simp [plainName, overriddenIn]; done) | decide +kernel)) O ?_
  intro p e s m below meth c T0 X0
  rw [show entryFrame m #[(.ref xa), (.ref ba)] 2 = (mkF m 0 #[.val (.ref xa), .val (.ref ba)] []) from by first | (simp [entryFrame, mkF, argsToLocals, Value.category]; done) | rfl]
  refine Run.via (fun _ => XS.aloadN X0.at X0.ex rfl (X0.de n1d_0) rfl rfl) ?_
  show Run _ _ _ _ _ _ _ _ _ _ _ _ T0 (mkF m 1 #[.val (.ref xa), .val (.ref ba)] [(.ref xa)])
  refine Run.via (fun _ => XS.aloadN X0.at X0.ex rfl (X0.de n1d_1) rfl rfl) ?_
  show Run _ _ _ _ _ _ _ _ _ _ _ _ T0 (mkF m 2 #[.val (.ref xa), .val (.ref ba)] [(.ref ba), (.ref xa)])
  refine Run.via (fun _ => XS.iconst X0.at X0.ex rfl (X0.de n1d_2)) ?_
  show Run _ _ _ _ _ _ _ _ _ _ _ _ T0 (mkF m 3 #[.val (.ref xa), .val (.ref ba)] [(.int (0 : Int32)), (.ref ba), (.ref xa)])
  refine Run.via (fun _ => XS.aloadN X0.at X0.ex rfl (X0.de n1d_3) rfl rfl) ?_
  show Run _ _ _ _ _ _ _ _ _ _ _ _ T0 (mkF m 4 #[.val (.ref xa), .val (.ref ba)] [(.ref ba), (.int (0 : Int32)), (.ref ba), (.ref xa)])
  refine Run.alen X0 A n1d_4 ?_
  show Run _ _ _ _ _ _ _ _ _ _ _ _ T0 (mkF m 5 #[.val (.ref xa), .val (.ref ba)] [(.int (0 : Int32)), (.int (0 : Int32)), (.ref ba), (.ref xa)])
  refine Run.via (fun _ => XS.aconstNull X0.at X0.ex rfl (X0.de n1d_5)) ?_
  show Run _ _ _ _ _ _ _ _ _ _ _ _ T0 (mkF m 6 #[.val (.ref xa), .val (.ref ba)] [.null, (.int (0 : Int32)), (.int (0 : Int32)), (.ref ba), (.ref xa)])
  refine Run.callN X0 (y := (⟨"java/lang/String", "<init>", "([CIILjava/lang/Void;)V"⟩ : MethodName)) (W := 0) (con_n4e l hw hN hm G hz O) rfl (wd hw 7 rfl) (wd hw 8 rfl) (wd hw 2 rfl) (wd hw 10 rfl) (by decide) pd___CIILjava_lang_Void__V rfl (argsL := [(.ref ba), (.int (0 : Int32)), (.int (0 : Int32)), .null]) (rest := []) rfl (Nat.le_of_ble_eq_true rfl) rfl n1d_6 (by decide) (by decide) (Nat.le_of_ble_eq_true rfl) (Nat.le_of_ble_eq_true rfl) (fun y hy => by cases List.mem_singleton.mp hy; exact ⟨Or.inl (List.mem_singleton.mpr rfl), hz⟩) (fun y hy => hy) ?_
  intro v102 T102 h102 L102 q102 X102 XF102 K102
  obtain ⟨rfl, S⟩ := q102
  show Run _ _ _ _ _ _ _ _ _ _ _ _ T102 (mkF m 9 #[.val (.ref xa), .val (.ref ba)] [])
  exact Run.retV X102 rfl n1d_9 (Nat.le_of_ble_eq_true rfl) (Nat.le_of_ble_eq_true rfl) (⟨rfl, S⟩)
-- part con_cd
theorem cdd_0 : decode jdk_42_method_152_code 0 = .ok (.getstatic 38, 3) := by decide +kernel
theorem cdd_3 : decode jdk_42_method_152_code 3 = .ok (.ifCond .eq 10, 3) := by decide +kernel
theorem cdd_6 : decode jdk_42_method_152_code 6 = .ok (.aload_n 0, 1) := by decide +kernel
theorem cdd_7 : decode jdk_42_method_152_code 7 = .ok (.getfield 15, 3) := by decide +kernel
theorem cdd_10 : decode jdk_42_method_152_code 10 = .ok (.goto 4, 3) := by decide +kernel
theorem cdd_14 : decode jdk_42_method_152_code 14 = .ok (.ireturn, 1) := by decide +kernel
set_option maxRecDepth 65536 in
set_option maxHeartbeats 40000000 in
theorem con_cd (l : Launch) {Z : State} {a0 : Array Value} {EL : List (String × Nat)} {h0 : Heap} (hw : ∀ d ∈ tables_1, d.before a0 Z = true) (hS : Sets Z) {a : Addr} (F : Fld Z h0 a "java/lang/String" "coder" "B" (.int 0)) (O : Ext Z.heap h0) : Con l Z a0 EL svN false (⟨"java/lang/String", "coder", "()B"⟩ : MethodName) jdk_42_method_152_code 1 (some .byte) ({ frames := 0, cells := 0, slots := 0, locals := 0 } : Room) [] [] #[(.ref a)] h0 (fun v h => v = some (.int 0) ∧ h0 = h) := by
  obtain ⟨zz, fm, S1, S2, S3, S4⟩ := hS
  refine Con.enter (plainFor_of_name (by first | (simp [plainName, overriddenIn]; done) | decide +kernel)) O ?_
  intro p e s m below meth c T0 X0
  rw [show entryFrame m #[(.ref a)] 1 = (mkF m 0 #[.val (.ref a)] []) from by first | (simp [entryFrame, mkF, argsToLocals, Value.category]; done) | rfl]
  refine Run.gets X0 (wd hw 66 rfl) Via.refl S1 cdd_0 ?_
  intro T101 X101
  show Run _ _ _ _ _ _ _ _ _ _ _ _ T101 (mkF m 3 #[.val (.ref a)] [(.int zz)])
  refine Run.via (fun _ => XS.ifNo X101.at X101.ex rfl (X101.de cdd_3) rfl ((if0 _ _).trans (feq S2).1)) ?_
  show Run _ _ _ _ _ _ _ _ _ _ _ _ T101 (mkF m 6 #[.val (.ref a)] [])
  refine Run.via (fun _ => XS.aloadN X101.at X101.ex rfl (X101.de cdd_6) rfl rfl) ?_
  show Run _ _ _ _ _ _ _ _ _ _ _ _ T101 (mkF m 7 #[.val (.ref a)] [(.ref a)])
  refine Run.getf X101 (wd hw 21 rfl) Via.refl F cdd_7 ?_
  intro T102 X102
  show Run _ _ _ _ _ _ _ _ _ _ _ _ T102 (mkF m 10 #[.val (.ref a)] [(.int (0 : Int32))])
  refine Run.via (fun _ => XS.goto X102.at X102.ex rfl (pc0 := 10) (pc' := 14) rfl (X102.de cdd_10) (by decide) (by decide)) ?_
  show Run _ _ _ _ _ _ _ _ _ _ _ _ T102 (mkF m 14 #[.val (.ref a)] [(.int (0 : Int32))])
  exact Run.retN X102 (t := .byte) rfl (by simp) cdd_14 (Nat.le_of_ble_eq_true rfl) (Nat.le_of_ble_eq_true rfl) (⟨rfl, rfl⟩)
-- part con_il
theorem ild_0 : decode jdk_42_method_154_code 0 = .ok (.getstatic 38, 3) := by decide +kernel
theorem ild_3 : decode jdk_42_method_154_code 3 = .ok (.ifCond .eq 14, 3) := by decide +kernel
theorem ild_6 : decode jdk_42_method_154_code 6 = .ok (.aload_n 0, 1) := by decide +kernel
theorem ild_7 : decode jdk_42_method_154_code 7 = .ok (.getfield 15, 3) := by decide +kernel
theorem ild_10 : decode jdk_42_method_154_code 10 = .ok (.ifCond .ne 7, 3) := by decide +kernel
theorem ild_13 : decode jdk_42_method_154_code 13 = .ok (.iconst 1, 1) := by decide +kernel
theorem ild_14 : decode jdk_42_method_154_code 14 = .ok (.goto 4, 3) := by decide +kernel
theorem ild_18 : decode jdk_42_method_154_code 18 = .ok (.ireturn, 1) := by decide +kernel
set_option maxRecDepth 65536 in
set_option maxHeartbeats 40000000 in
theorem con_il (l : Launch) {Z : State} {a0 : Array Value} {EL : List (String × Nat)} {h0 : Heap} (hw : ∀ d ∈ tables_1, d.before a0 Z = true) (hS : Sets Z) {a : Addr} (F : Fld Z h0 a "java/lang/String" "coder" "B" (.int 0)) (O : Ext Z.heap h0) : Con l Z a0 EL svN false (⟨"java/lang/String", "isLatin1", "()Z"⟩ : MethodName) jdk_42_method_154_code 1 (some .boolean) ({ frames := 0, cells := 0, slots := 0, locals := 0 } : Room) [] [] #[(.ref a)] h0 (fun v h => v = some (.int 1) ∧ h0 = h) := by
  obtain ⟨zz, fm, S1, S2, S3, S4⟩ := hS
  refine Con.enter (plainFor_of_name (by first | (simp [plainName, overriddenIn]; done) | decide +kernel)) O ?_
  intro p e s m below meth c T0 X0
  rw [show entryFrame m #[(.ref a)] 1 = (mkF m 0 #[.val (.ref a)] []) from by first | (simp [entryFrame, mkF, argsToLocals, Value.category]; done) | rfl]
  refine Run.gets X0 (wd hw 66 rfl) Via.refl S1 ild_0 ?_
  intro T101 X101
  show Run _ _ _ _ _ _ _ _ _ _ _ _ T101 (mkF m 3 #[.val (.ref a)] [(.int zz)])
  refine Run.via (fun _ => XS.ifNo X101.at X101.ex rfl (X101.de ild_3) rfl ((if0 _ _).trans (feq S2).1)) ?_
  show Run _ _ _ _ _ _ _ _ _ _ _ _ T101 (mkF m 6 #[.val (.ref a)] [])
  refine Run.via (fun _ => XS.aloadN X101.at X101.ex rfl (X101.de ild_6) rfl rfl) ?_
  show Run _ _ _ _ _ _ _ _ _ _ _ _ T101 (mkF m 7 #[.val (.ref a)] [(.ref a)])
  refine Run.getf X101 (wd hw 21 rfl) Via.refl F ild_7 ?_
  intro T102 X102
  show Run _ _ _ _ _ _ _ _ _ _ _ _ T102 (mkF m 10 #[.val (.ref a)] [(.int (0 : Int32))])
  refine Run.via (fun _ => XS.ifNo X102.at X102.ex rfl (X102.de ild_10) rfl ((if0 _ _).trans (teq (by decide : ((0 : Int32) = (0 : Int32)))).2)) ?_
  show Run _ _ _ _ _ _ _ _ _ _ _ _ T102 (mkF m 13 #[.val (.ref a)] [])
  refine Run.via (fun _ => XS.iconst X102.at X102.ex rfl (X102.de ild_13)) ?_
  show Run _ _ _ _ _ _ _ _ _ _ _ _ T102 (mkF m 14 #[.val (.ref a)] [(.int (1 : Int32))])
  refine Run.via (fun _ => XS.goto X102.at X102.ex rfl (pc0 := 14) (pc' := 18) rfl (X102.de ild_14) (by decide) (by decide)) ?_
  show Run _ _ _ _ _ _ _ _ _ _ _ _ T102 (mkF m 18 #[.val (.ref a)] [(.int (1 : Int32))])
  exact Run.retN X102 (t := .boolean) rfl (by simp) ild_18 (Nat.le_of_ble_eq_true rfl) (Nat.le_of_ble_eq_true rfl) (⟨rfl, rfl⟩)
-- part con_mn
theorem mnd_0 : decode jdk_29_method_69_code 0 = .ok (.iload_n 0, 1) := by decide +kernel
theorem mnd_1 : decode jdk_29_method_69_code 1 = .ok (.iload_n 1, 1) := by decide +kernel
theorem mnd_2 : decode jdk_29_method_69_code 2 = .ok (.if_icmp .gt 7, 3) := by decide +kernel
theorem mnd_5 : decode jdk_29_method_69_code 5 = .ok (.iload_n 0, 1) := by decide +kernel
theorem mnd_6 : decode jdk_29_method_69_code 6 = .ok (.goto 4, 3) := by decide +kernel
theorem mnd_9 : decode jdk_29_method_69_code 9 = .ok (.iload_n 1, 1) := by decide +kernel
theorem mnd_10 : decode jdk_29_method_69_code 10 = .ok (.ireturn, 1) := by decide +kernel
set_option maxRecDepth 65536 in
set_option maxHeartbeats 40000000 in
theorem con_mn (l : Launch) {Z : State} {a0 : Array Value} {EL : List (String × Nat)} {h0 : Heap} (hw : ∀ d ∈ tables_1, d.before a0 Z = true) {a b : Nat} (ha : a ≤ 4000) (hb : b ≤ 4000) (O : Ext Z.heap h0) : Con l Z a0 EL svN false (⟨"java/lang/Math", "min", "(II)I"⟩ : MethodName) jdk_29_method_69_code 2 (some .int) ({ frames := 0, cells := 0, slots := 0, locals := 0 } : Room) [] [] #[(.int (Int32.ofNat a)), (.int (Int32.ofNat b))] h0 (fun v h => v = some (.int (Int32.ofNat (min a b))) ∧ h0 = h) := by
  refine Con.enter (Jvm.Free.JP.mathPlain rfl (by decide +kernel)) O ?_
  intro p e s m below meth c T0 X0
  rw [show entryFrame m #[(.int (Int32.ofNat a)), (.int (Int32.ofNat b))] 2 = (mkF m 0 #[.val (.int (Int32.ofNat a)), .val (.int (Int32.ofNat b))] []) from by first | (simp [entryFrame, mkF, argsToLocals, Value.category]; done) | rfl]
  refine Run.via (fun _ => XS.iloadN X0.at X0.ex rfl (X0.de mnd_0) rfl) ?_
  show Run _ _ _ _ _ _ _ _ _ _ _ _ T0 (mkF m 1 #[.val (.int (Int32.ofNat a)), .val (.int (Int32.ofNat b))] [(.int (Int32.ofNat a))])
  refine Run.via (fun _ => XS.iloadN X0.at X0.ex rfl (X0.de mnd_1) rfl) ?_
  show Run _ _ _ _ _ _ _ _ _ _ _ _ T0 (mkF m 2 #[.val (.int (Int32.ofNat a)), .val (.int (Int32.ofNat b))] [(.int (Int32.ofNat b)), (.int (Int32.ofNat a))])
  by_cases q : (Int32.ofNat b) < (Int32.ofNat a)
  ·
    refine Run.via (fun _ => XS.icmpYes X0.at X0.ex rfl (pc0 := 2) (pc' := 9) rfl (X0.de mnd_2) rfl (tlt q).2.2.1 (by decide) (by decide)) ?_
    show Run _ _ _ _ _ _ _ _ _ _ _ _ T0 (mkF m 9 #[.val (.int (Int32.ofNat a)), .val (.int (Int32.ofNat b))] [])
    refine Run.via (fun _ => XS.iloadN X0.at X0.ex rfl (X0.de mnd_9) rfl) ?_
    show Run _ _ _ _ _ _ _ _ _ _ _ _ T0 (mkF m 10 #[.val (.int (Int32.ofNat a)), .val (.int (Int32.ofNat b))] [(.int (Int32.ofNat b))])
    exact Run.retI X0 rfl mnd_10 (Nat.le_of_ble_eq_true rfl) (Nat.le_of_ble_eq_true rfl) (⟨by rw [Nat.min_eq_right (by have := (i32lt (by omega) (by omega)).mp q; omega)], rfl⟩)
  ·
    refine Run.via (fun _ => XS.icmpNo X0.at X0.ex rfl (X0.de mnd_2) rfl (flt q).2.2.1) ?_
    show Run _ _ _ _ _ _ _ _ _ _ _ _ T0 (mkF m 5 #[.val (.int (Int32.ofNat a)), .val (.int (Int32.ofNat b))] [])
    refine Run.via (fun _ => XS.iloadN X0.at X0.ex rfl (X0.de mnd_5) rfl) ?_
    show Run _ _ _ _ _ _ _ _ _ _ _ _ T0 (mkF m 6 #[.val (.int (Int32.ofNat a)), .val (.int (Int32.ofNat b))] [(.int (Int32.ofNat a))])
    refine Run.via (fun _ => XS.goto X0.at X0.ex rfl (pc0 := 6) (pc' := 10) rfl (X0.de mnd_6) (by decide) (by decide)) ?_
    show Run _ _ _ _ _ _ _ _ _ _ _ _ T0 (mkF m 10 #[.val (.int (Int32.ofNat a)), .val (.int (Int32.ofNat b))] [(.int (Int32.ofNat a))])
    exact Run.retI X0 rfl mnd_10 (Nat.le_of_ble_eq_true rfl) (Nat.le_of_ble_eq_true rfl) (⟨by rw [Nat.min_eq_left (by have := mt (i32lt (a := b) (b := a) (by omega) (by omega)).mpr q; omega)], rfl⟩)
-- part con_mx
theorem mxd_0 : decode jdk_29_method_65_code 0 = .ok (.iload_n 0, 1) := by decide +kernel
theorem mxd_1 : decode jdk_29_method_65_code 1 = .ok (.iload_n 1, 1) := by decide +kernel
theorem mxd_2 : decode jdk_29_method_65_code 2 = .ok (.if_icmp .lt 7, 3) := by decide +kernel
theorem mxd_5 : decode jdk_29_method_65_code 5 = .ok (.iload_n 0, 1) := by decide +kernel
theorem mxd_6 : decode jdk_29_method_65_code 6 = .ok (.goto 4, 3) := by decide +kernel
theorem mxd_9 : decode jdk_29_method_65_code 9 = .ok (.iload_n 1, 1) := by decide +kernel
theorem mxd_10 : decode jdk_29_method_65_code 10 = .ok (.ireturn, 1) := by decide +kernel
set_option maxRecDepth 65536 in
set_option maxHeartbeats 40000000 in
theorem con_mx (l : Launch) {Z : State} {a0 : Array Value} {EL : List (String × Nat)} {h0 : Heap} (hw : ∀ d ∈ tables_1, d.before a0 Z = true) {a b : Nat} (ha : a ≤ 4000) (hb : b ≤ 4000) (O : Ext Z.heap h0) : Con l Z a0 EL svN false (⟨"java/lang/Math", "max", "(II)I"⟩ : MethodName) jdk_29_method_65_code 2 (some .int) ({ frames := 0, cells := 0, slots := 0, locals := 0 } : Room) [] [] #[(.int (Int32.ofNat a)), (.int (Int32.ofNat b))] h0 (fun v h => v = some (.int (Int32.ofNat (max a b))) ∧ h0 = h) := by
  refine Con.enter (Jvm.Free.JP.mathPlain rfl (by decide +kernel)) O ?_
  intro p e s m below meth c T0 X0
  rw [show entryFrame m #[(.int (Int32.ofNat a)), (.int (Int32.ofNat b))] 2 = (mkF m 0 #[.val (.int (Int32.ofNat a)), .val (.int (Int32.ofNat b))] []) from by first | (simp [entryFrame, mkF, argsToLocals, Value.category]; done) | rfl]
  refine Run.via (fun _ => XS.iloadN X0.at X0.ex rfl (X0.de mxd_0) rfl) ?_
  show Run _ _ _ _ _ _ _ _ _ _ _ _ T0 (mkF m 1 #[.val (.int (Int32.ofNat a)), .val (.int (Int32.ofNat b))] [(.int (Int32.ofNat a))])
  refine Run.via (fun _ => XS.iloadN X0.at X0.ex rfl (X0.de mxd_1) rfl) ?_
  show Run _ _ _ _ _ _ _ _ _ _ _ _ T0 (mkF m 2 #[.val (.int (Int32.ofNat a)), .val (.int (Int32.ofNat b))] [(.int (Int32.ofNat b)), (.int (Int32.ofNat a))])
  by_cases q : (Int32.ofNat a) < (Int32.ofNat b)
  ·
    refine Run.via (fun _ => XS.icmpYes X0.at X0.ex rfl (pc0 := 2) (pc' := 9) rfl (X0.de mxd_2) rfl (tlt q).1 (by decide) (by decide)) ?_
    show Run _ _ _ _ _ _ _ _ _ _ _ _ T0 (mkF m 9 #[.val (.int (Int32.ofNat a)), .val (.int (Int32.ofNat b))] [])
    refine Run.via (fun _ => XS.iloadN X0.at X0.ex rfl (X0.de mxd_9) rfl) ?_
    show Run _ _ _ _ _ _ _ _ _ _ _ _ T0 (mkF m 10 #[.val (.int (Int32.ofNat a)), .val (.int (Int32.ofNat b))] [(.int (Int32.ofNat b))])
    exact Run.retI X0 rfl mxd_10 (Nat.le_of_ble_eq_true rfl) (Nat.le_of_ble_eq_true rfl) (⟨by rw [Nat.max_eq_right (by have := (i32lt (by omega) (by omega)).mp q; omega)], rfl⟩)
  ·
    refine Run.via (fun _ => XS.icmpNo X0.at X0.ex rfl (X0.de mxd_2) rfl (flt q).1) ?_
    show Run _ _ _ _ _ _ _ _ _ _ _ _ T0 (mkF m 5 #[.val (.int (Int32.ofNat a)), .val (.int (Int32.ofNat b))] [])
    refine Run.via (fun _ => XS.iloadN X0.at X0.ex rfl (X0.de mxd_5) rfl) ?_
    show Run _ _ _ _ _ _ _ _ _ _ _ _ T0 (mkF m 6 #[.val (.int (Int32.ofNat a)), .val (.int (Int32.ofNat b))] [(.int (Int32.ofNat a))])
    refine Run.via (fun _ => XS.goto X0.at X0.ex rfl (pc0 := 6) (pc' := 10) rfl (X0.de mxd_6) (by decide) (by decide)) ?_
    show Run _ _ _ _ _ _ _ _ _ _ _ _ T0 (mkF m 10 #[.val (.int (Int32.ofNat a)), .val (.int (Int32.ofNat b))] [(.int (Int32.ofNat a))])
    exact Run.retI X0 rfl mxd_10 (Nat.le_of_ble_eq_true rfl) (Nat.le_of_ble_eq_true rfl) (⟨by rw [Nat.max_eq_left (by have := mt (i32lt (a := a) (b := b) (by omega) (by omega)).mpr q; omega)], rfl⟩)
-- part con_ai
theorem aid_0 : decode jdk_68_method_2_code 0 = .ok (.aload_n 0, 1) := by decide +kernel
theorem aid_1 : decode jdk_68_method_2_code 1 = .ok (.invokespecial 3, 3) := by decide +kernel
theorem aid_4 : decode jdk_68_method_2_code 4 = .ok (.getstatic 18, 3) := by decide +kernel
theorem aid_7 : decode jdk_68_method_2_code 7 = .ok (.ifCond .eq 18, 3) := by decide +kernel
theorem aid_10 : decode jdk_68_method_2_code 10 = .ok (.aload_n 0, 1) := by decide +kernel
theorem aid_11 : decode jdk_68_method_2_code 11 = .ok (.iload_n 1, 1) := by decide +kernel
theorem aid_12 : decode jdk_68_method_2_code 12 = .ok (.newarray .byte, 2) := by decide +kernel
theorem aid_14 : decode jdk_68_method_2_code 14 = .ok (.putfield 15, 3) := by decide +kernel
theorem aid_17 : decode jdk_68_method_2_code 17 = .ok (.aload_n 0, 1) := by decide +kernel
theorem aid_18 : decode jdk_68_method_2_code 18 = .ok (.iconst 0, 1) := by decide +kernel
theorem aid_19 : decode jdk_68_method_2_code 19 = .ok (.putfield 22, 3) := by decide +kernel
theorem aid_22 : decode jdk_68_method_2_code 22 = .ok (.goto 16, 3) := by decide +kernel
theorem aid_38 : decode jdk_68_method_2_code 38 = .ok (.return_, 1) := by decide +kernel
set_option maxRecDepth 65536 in
set_option maxHeartbeats 40000000 in
theorem con_ai (l : Launch) {Z : State} {a0 : Array Value} {EL : List (String × Nat)} {h0 : Heap} (hw : ∀ d ∈ tables_1, d.before a0 Z = true) (hS : Sets Z) {b : Addr} (G : SBR Z h0 b) (hz : Z.heap.size ≤ b) (O : Ext Z.heap h0) : Con l Z a0 EL (svB Z b) false (⟨"java/lang/AbstractStringBuilder", "<init>", "(I)V"⟩ : MethodName) jdk_68_method_2_code 2 none ({ frames := 1, cells := 1, slots := 16, locals := 12 } : Room) [b] [] #[(.ref b), (.int (16 : Int32))] h0 (fun v h => ∃ t, v = none ∧ h0.size ≤ t ∧ SB Z h b t [] 16) := by
  obtain ⟨zz, fm, S1, S2, S3, S4⟩ := hS
  refine Con.enter (plainFor_of_name (by first | (simp [plainName, overriddenIn]; done) | decide +kernel)) O ?_
  intro p e s m below meth c T0 X0
  rw [show entryFrame m #[(.ref b), (.int (16 : Int32))] 2 = (mkF m 0 #[.val (.ref b), .val (.int (16 : Int32))] []) from by first | (simp [entryFrame, mkF, argsToLocals, Value.category]; done) | rfl]
  have ho := O.1
  have hlt : @LT.lt Nat _ b h0.size := G.1.lt
  refine Run.via (fun _ => XS.aloadN X0.at X0.ex rfl (X0.de aid_0) rfl rfl) ?_
  show Run _ _ _ _ _ _ _ _ _ _ _ _ T0 (mkF m 1 #[.val (.ref b), .val (.int (16 : Int32))] [(.ref b)])
  refine Run.initO X0 (wd hw 40 rfl) (wd hw 12 rfl) (wd hw 13 rfl) rfl aid_1 (by decide) (Nat.le_of_ble_eq_true rfl) ?_
  intro T101 X101
  show Run _ _ _ _ _ _ _ _ _ _ _ _ T101 (mkF m 4 #[.val (.ref b), .val (.int (16 : Int32))] [])
  refine Run.gets X101 (wd hw 41 rfl) Via.refl S1 aid_4 ?_
  intro T102 X102
  show Run _ _ _ _ _ _ _ _ _ _ _ _ T102 (mkF m 7 #[.val (.ref b), .val (.int (16 : Int32))] [(.int zz)])
  refine Run.via (fun _ => XS.ifNo X102.at X102.ex rfl (X102.de aid_7) rfl ((if0 _ _).trans (feq S2).1)) ?_
  show Run _ _ _ _ _ _ _ _ _ _ _ _ T102 (mkF m 10 #[.val (.ref b), .val (.int (16 : Int32))] [])
  refine Run.via (fun _ => XS.aloadN X102.at X102.ex rfl (X102.de aid_10) rfl rfl) ?_
  show Run _ _ _ _ _ _ _ _ _ _ _ _ T102 (mkF m 11 #[.val (.ref b), .val (.int (16 : Int32))] [(.ref b)])
  refine Run.via (fun _ => XS.iloadN X102.at X102.ex rfl (X102.de aid_11) rfl) ?_
  show Run _ _ _ _ _ _ _ _ _ _ _ _ T102 (mkF m 12 #[.val (.ref b), .val (.int (16 : Int32))] [(.int (16 : Int32)), (.ref b)])
  refine Run.newarrE X102 (n := 16) (cap := 16) (wd hw 15 rfl) aid_12 rfl (Nat.le_refl _) (by decide) (Nat.le_of_ble_eq_true rfl) (Nat.le_of_ble_eq_true rfl) ?_
  intro T103 h103 x103 g103 X103 K103 z103 A103 E103
  show Run _ _ _ _ _ _ _ _ _ _ _ _ T103 (mkF m 14 #[.val (.ref b), .val (.int (16 : Int32))] [(.ref x103), (.ref b)])
  refine Run.putf X103 (wd hw 42 rfl) Via.refl (G.2.1.keep K103 nin0) (G.1.keep K103) (Or.inl (wd hw 43 rfl)) (wd hw 29 rfl) (ty := (.array .byte)) (v' := (.ref x103)) (by decide) rfl rfl (Or.inl (List.mem_singleton.mpr rfl)) hz (Or.inl (by decide)) aid_14 ?_
  intro T104 h104 L104 X104 K104 W104 F104 E104
  show Run _ _ _ _ _ _ _ _ _ _ _ _ T104 (mkF m 17 #[.val (.ref b), .val (.int (16 : Int32))] [])
  have C0 := ((G.2.2.1.keep K103 nin0).other W104 (Or.inr (slot_ne (Or.inl (wd hw 45 rfl)) (Or.inl (wd hw 43 rfl)) (by decide) (t := .byte) (t' := (.array .byte)) (by decide) (by decide))))
  have N0 := ((G.2.2.2.keep K103 nin0).other W104 (Or.inr (slot_ne (Or.inl (wd hw 68 rfl)) (Or.inl (wd hw 43 rfl)) (by decide) (t := .int) (t' := (.array .byte)) (by decide) (by decide))))
  have nx : x103 ≠ b := neA (by omega)
  have A1 := A103.keep K104 (ninS nx nin0)
  have E1 := E103.keep K104
  refine Run.via (fun _ => XS.aloadN X104.at X104.ex rfl (X104.de aid_17) rfl rfl) ?_
  show Run _ _ _ _ _ _ _ _ _ _ _ _ T104 (mkF m 18 #[.val (.ref b), .val (.int (16 : Int32))] [(.ref b)])
  refine Run.via (fun _ => XS.iconst X104.at X104.ex rfl (X104.de aid_18)) ?_
  show Run _ _ _ _ _ _ _ _ _ _ _ _ T104 (mkF m 19 #[.val (.ref b), .val (.int (16 : Int32))] [(.int (0 : Int32)), (.ref b)])
  refine Run.putf X104 (wd hw 44 rfl) Via.refl C0 E104 (Or.inl (wd hw 45 rfl)) (wd hw 29 rfl) (ty := .byte) (v' := (.int (0 : Int32))) (by decide) rfl rfl (Or.inl (List.mem_singleton.mpr rfl)) hz (Or.inl (by decide)) aid_19 ?_
  intro T105 h105 L105 X105 K105 W105 F105 E105
  show Run _ _ _ _ _ _ _ _ _ _ _ _ T105 (mkF m 22 #[.val (.ref b), .val (.int (16 : Int32))] [])
  have F1 := (F104.other W105 (Or.inr (slot_ne (Or.inl (wd hw 43 rfl)) (Or.inl (wd hw 45 rfl)) (by decide) (t := (.array .byte)) (t' := .byte) (by decide) (by decide))))
  have N1 := (N0.other W105 (Or.inr (slot_ne (Or.inl (wd hw 68 rfl)) (Or.inl (wd hw 45 rfl)) (by decide) (t := .int) (t' := .byte) (by decide) (by decide))))
  have A2 := A1.keep K105 (ninS nx nin0)
  have E2 := E1.keep K105
  refine Run.via (fun _ => XS.goto X105.at X105.ex rfl (pc0 := 22) (pc' := 38) rfl (X105.de aid_22) (by decide) (by decide)) ?_
  show Run _ _ _ _ _ _ _ _ _ _ _ _ T105 (mkF m 38 #[.val (.ref b), .val (.int (16 : Int32))] [])
  exact Run.retV X105 rfl aid_38 (Nat.le_of_ble_eq_true rfl) (Nat.le_of_ble_eq_true rfl) (⟨x103, rfl, by omega, E105, F1, F105, N1, A2, E2⟩) (fun x hx => by cases fld_inj F1 hx; simp)
-- part con_bi
theorem bid_0 : decode jdk_67_method_1_code 0 = .ok (.aload_n 0, 1) := by decide +kernel
theorem bid_1 : decode jdk_67_method_1_code 1 = .ok (.bipush 16, 2) := by decide +kernel
theorem bid_3 : decode jdk_67_method_1_code 3 = .ok (.invokespecial 1, 3) := by decide +kernel
theorem bid_6 : decode jdk_67_method_1_code 6 = .ok (.return_, 1) := by decide +kernel
set_option maxRecDepth 65536 in
set_option maxHeartbeats 40000000 in
theorem con_bi (l : Launch) {Z : State} {a0 : Array Value} {EL : List (String × Nat)} {h0 : Heap} (hw : ∀ d ∈ tables_1, d.before a0 Z = true) (hS : Sets Z) {b : Addr} (G : SBR Z h0 b) (hz : Z.heap.size ≤ b) (O : Ext Z.heap h0) : Con l Z a0 EL (svB Z b) false (⟨"java/lang/StringBuilder", "<init>", "()V"⟩ : MethodName) jdk_67_method_1_code 1 none ({ frames := 2, cells := 1, slots := 16, locals := 26 } : Room) [b] [] #[(.ref b)] h0 (fun v h => ∃ t, v = none ∧ h0.size ≤ t ∧ SB Z h b t [] 16) := by
  refine Con.enter (plainFor_of_name (by first | (simp [plainName, overriddenIn]; done) | decide +kernel)) O ?_
  intro p e s m below meth c T0 X0
  rw [show entryFrame m #[(.ref b)] 1 = (mkF m 0 #[.val (.ref b)] []) from by first | (simp [entryFrame, mkF, argsToLocals, Value.category]; done) | rfl]
  refine Run.via (fun _ => XS.aloadN X0.at X0.ex rfl (X0.de bid_0) rfl rfl) ?_
  show Run _ _ _ _ _ _ _ _ _ _ _ _ T0 (mkF m 1 #[.val (.ref b)] [(.ref b)])
  refine Run.via (fun _ => XS.bipush X0.at X0.ex rfl (X0.de bid_1)) ?_
  show Run _ _ _ _ _ _ _ _ _ _ _ _ T0 (mkF m 3 #[.val (.ref b)] [(.int (16 : Int32)), (.ref b)])
  refine Run.callN X0 (y := (⟨"java/lang/AbstractStringBuilder", "<init>", "(I)V"⟩ : MethodName)) (W := 0) (con_ai l hw hS G hz O) rfl (wd hw 34 rfl) (wd hw 35 rfl) (wd hw 38 rfl) (wd hw 39 rfl) (by decide) pd__I_V rfl (argsL := [(.int (16 : Int32))]) (rest := []) rfl (Nat.le_of_ble_eq_true rfl) rfl bid_3 (by decide) (by decide) (Nat.le_of_ble_eq_true rfl) (Nat.le_of_ble_eq_true rfl) (fun y hy => by cases List.mem_singleton.mp hy; exact ⟨(Or.inl (List.mem_singleton.mpr rfl)), hz⟩) (nofun) ?_
  intro v101 T101 h101 L101 q101 X101 XF101 K101
  obtain ⟨t, rfl, gt, SB1⟩ := q101
  have X101 := XF101 _ SB1.2.1
  show Run _ _ _ _ _ _ _ _ _ _ _ _ T101 (mkF m 6 #[.val (.ref b)] [])
  exact Run.retV X101 rfl bid_6 (Nat.le_of_ble_eq_true rfl) (Nat.le_of_ble_eq_true rfl) (⟨t, rfl, gt, SB1⟩) (fun x hx => by cases fld_inj SB1.2.1 hx; simp)
-- part con_inf
theorem infd_0 : decode jdk_68_method_71_code 0 = .ok (.getstatic 18, 3) := by decide +kernel
theorem infd_3 : decode jdk_68_method_71_code 3 = .ok (.ifCond .eq 18, 3) := by decide +kernel
theorem infd_6 : decode jdk_68_method_71_code 6 = .ok (.aload_n 0, 1) := by decide +kernel
theorem infd_7 : decode jdk_68_method_71_code 7 = .ok (.getfield 22, 3) := by decide +kernel
theorem infd_10 : decode jdk_68_method_71_code 10 = .ok (.aload_n 1, 1) := by decide +kernel
theorem infd_11 : decode jdk_68_method_71_code 11 = .ok (.invokevirtual 40, 3) := by decide +kernel
theorem infd_14 : decode jdk_68_method_71_code 14 = .ok (.if_icmp .eq 7, 3) := by decide +kernel
theorem infd_21 : decode jdk_68_method_71_code 21 = .ok (.return_, 1) := by decide +kernel
set_option maxRecDepth 65536 in
set_option maxHeartbeats 40000000 in
theorem con_inf (l : Launch) {Z : State} {a0 : Array Value} {EL : List (String × Nat)} {h0 : Heap} (hw : ∀ d ∈ tables_1, d.before a0 Z = true) (hS : Sets Z) {a b : Addr} {cs : List Int32} (hl : Lat cs) (S : Str Z h0 a cs) (F : Fld Z h0 b "java/lang/AbstractStringBuilder" "coder" "B" (.int 0)) (O : Ext Z.heap h0) : Con l Z a0 EL svN false (⟨"java/lang/AbstractStringBuilder", "inflateIfNeededFor", "(Ljava/lang/String;)V"⟩ : MethodName) jdk_68_method_71_code 2 none ({ frames := 1, cells := 0, slots := 0, locals := 14 } : Room) [] [] #[(.ref b), (.ref a)] h0 (fun v h => v = none ∧ h0 = h) := by
  obtain ⟨E', hl4, t', F1', F2', A'⟩ := S.lat hl
  obtain ⟨zz, fm, S1, S2, S3, S4⟩ := id hS
  refine Con.enter (plainFor_of_name (by first | (simp [plainName, overriddenIn]; done) | decide +kernel)) O ?_
  intro p e s m below meth c T0 X0
  rw [show entryFrame m #[(.ref b), (.ref a)] 2 = (mkF m 0 #[.val (.ref b), .val (.ref a)] []) from by first | (simp [entryFrame, mkF, argsToLocals, Value.category]; done) | rfl]
  refine Run.gets X0 (wd hw 41 rfl) Via.refl S1 infd_0 ?_
  intro T101 X101
  show Run _ _ _ _ _ _ _ _ _ _ _ _ T101 (mkF m 3 #[.val (.ref b), .val (.ref a)] [(.int zz)])
  refine Run.via (fun _ => XS.ifNo X101.at X101.ex rfl (X101.de infd_3) rfl ((if0 _ _).trans (feq S2).1)) ?_
  show Run _ _ _ _ _ _ _ _ _ _ _ _ T101 (mkF m 6 #[.val (.ref b), .val (.ref a)] [])
  refine Run.via (fun _ => XS.aloadN X101.at X101.ex rfl (X101.de infd_6) rfl rfl) ?_
  show Run _ _ _ _ _ _ _ _ _ _ _ _ T101 (mkF m 7 #[.val (.ref b), .val (.ref a)] [(.ref b)])
  refine Run.getf X101 (wd hw 44 rfl) Via.refl F infd_7 ?_
  intro T102 X102
  show Run _ _ _ _ _ _ _ _ _ _ _ _ T102 (mkF m 10 #[.val (.ref b), .val (.ref a)] [(.int (0 : Int32))])
  refine Run.via (fun _ => XS.aloadN X102.at X102.ex rfl (X102.de infd_10) rfl rfl) ?_
  show Run _ _ _ _ _ _ _ _ _ _ _ _ T102 (mkF m 11 #[.val (.ref b), .val (.ref a)] [(.ref a), (.int (0 : Int32))])
  refine Run.callV X102 (y := (⟨"java/lang/String", "coder", "()B"⟩ : MethodName)) (W := 1) (con_cd l hw hS F2' O) E' (wd hw 84 rfl) (wd hw 62 rfl) (wd hw 63 rfl) (wd hw 64 rfl) (wd hw 2 rfl) (wd hw 65 rfl) (by decide) pd___B rfl (argsL := []) (rest := [(.int (0 : Int32))]) rfl (Nat.le_of_ble_eq_true rfl) rfl infd_11 (by decide) (by decide) (Nat.le_of_ble_eq_true rfl) (Nat.le_of_ble_eq_true rfl) (nofun) (nofun) ?_
  intro v103 T103 h103 L103 q103 X103 XF103 K103
  obtain ⟨rfl, rfl⟩ := q103
  show Run _ _ _ _ _ _ _ _ _ _ _ _ T103 (mkF m 14 #[.val (.ref b), .val (.ref a)] [(.int (0 : Int32)), (.int (0 : Int32))])
  refine Run.via (fun _ => XS.icmpYes X103.at X103.ex rfl (pc0 := 14) (pc' := 21) rfl (X103.de infd_14) rfl (teq (by decide : ((0 : Int32) = (0 : Int32)))).1 (by decide) (by decide)) ?_
  show Run _ _ _ _ _ _ _ _ _ _ _ _ T103 (mkF m 21 #[.val (.ref b), .val (.ref a)] [])
  exact Run.retV X103 rfl infd_21 (Nat.le_of_ble_eq_true rfl) (Nat.le_of_ble_eq_true rfl) (⟨rfl, rfl⟩)
-- part con_gby
theorem gbyd_0 : decode jdk_42_method_147_code 0 = .ok (.aload_n 0, 1) := by decide +kernel
theorem gbyd_1 : decode jdk_42_method_147_code 1 = .ok (.invokevirtual 335, 3) := by decide +kernel
theorem gbyd_4 : decode jdk_42_method_147_code 4 = .ok (.iload_n 3, 1) := by decide +kernel
theorem gbyd_5 : decode jdk_42_method_147_code 5 = .ok (.if_icmp .ne 23, 3) := by decide +kernel
theorem gbyd_8 : decode jdk_42_method_147_code 8 = .ok (.aload_n 0, 1) := by decide +kernel
theorem gbyd_9 : decode jdk_42_method_147_code 9 = .ok (.getfield 9, 3) := by decide +kernel
theorem gbyd_12 : decode jdk_42_method_147_code 12 = .ok (.iconst 0, 1) := by decide +kernel
theorem gbyd_13 : decode jdk_42_method_147_code 13 = .ok (.aload_n 1, 1) := by decide +kernel
theorem gbyd_14 : decode jdk_42_method_147_code 14 = .ok (.iload_n 2, 1) := by decide +kernel
theorem gbyd_15 : decode jdk_42_method_147_code 15 = .ok (.iload_n 3, 1) := by decide +kernel
theorem gbyd_16 : decode jdk_42_method_147_code 16 = .ok (.ishl, 1) := by decide +kernel
theorem gbyd_17 : decode jdk_42_method_147_code 17 = .ok (.aload_n 0, 1) := by decide +kernel
theorem gbyd_18 : decode jdk_42_method_147_code 18 = .ok (.getfield 9, 3) := by decide +kernel
theorem gbyd_21 : decode jdk_42_method_147_code 21 = .ok (.arraylength, 1) := by decide +kernel
theorem gbyd_22 : decode jdk_42_method_147_code 22 = .ok (.invokestatic 212, 3) := by decide +kernel
theorem gbyd_25 : decode jdk_42_method_147_code 25 = .ok (.goto 18, 3) := by decide +kernel
theorem gbyd_43 : decode jdk_42_method_147_code 43 = .ok (.return_, 1) := by decide +kernel
set_option maxRecDepth 65536 in
set_option maxHeartbeats 40000000 in
theorem con_gby (l : Launch) {Z : State} {a0 : Array Value} {EL : List (String × Nat)} {h0 : Heap} (hw : ∀ d ∈ tables_1, d.before a0 Z = true) (hS : Sets Z) {a t : Addr} {cs bs : List Int32} {p' : Nat} (hl : Lat cs) (S : Str Z h0 a cs) (A : Arc .byte Z h0 t bs) (hp : p' + cs.length ≤ bs.length) (hz : Z.heap.size ≤ t) (O : Ext Z.heap h0) : Con l Z a0 EL svN false (⟨"java/lang/String", "getBytes", "([BIB)V"⟩ : MethodName) jdk_42_method_147_code 4 none ({ frames := 1, cells := 0, slots := 0, locals := 40 } : Room) [t] [t] #[(.ref a), (.ref t), (.int (Int32.ofNat p')), (.int (0 : Int32))] h0 (fun v h => v = none ∧ Arc .byte Z h t (bs.take p' ++ cs.map StrChars.lo8 ++ bs.drop (p' + cs.length))) := by
  obtain ⟨E', hl4, t', F1', F2', A'⟩ := S.lat hl
  have hb4 : bs.length ≤ 4000 := by obtain ⟨_, _, r⟩ := A; exact r
  refine Con.enter (plainFor_of_name (by first | (simp [plainName, overriddenIn]; done) | decide +kernel)) O ?_
  intro p e s m below meth c T0 X0
  rw [show entryFrame m #[(.ref a), (.ref t), (.int (Int32.ofNat p')), (.int (0 : Int32))] 4 = (mkF m 0 #[.val (.ref a), .val (.ref t), .val (.int (Int32.ofNat p')), .val (.int (0 : Int32))] []) from by first | (simp [entryFrame, mkF, argsToLocals, Value.category]; done) | rfl]
  refine Run.via (fun _ => XS.aloadN X0.at X0.ex rfl (X0.de gbyd_0) rfl rfl) ?_
  show Run _ _ _ _ _ _ _ _ _ _ _ _ T0 (mkF m 1 #[.val (.ref a), .val (.ref t), .val (.int (Int32.ofNat p')), .val (.int (0 : Int32))] [(.ref a)])
  refine Run.callV X0 (y := (⟨"java/lang/String", "coder", "()B"⟩ : MethodName)) (W := 0) (con_cd l hw hS F2' O) E' (wd hw 61 rfl) (wd hw 62 rfl) (wd hw 63 rfl) (wd hw 64 rfl) (wd hw 2 rfl) (wd hw 65 rfl) (by decide) pd___B rfl (argsL := []) (rest := []) rfl (Nat.le_of_ble_eq_true rfl) rfl gbyd_1 (by decide) (by decide) (Nat.le_of_ble_eq_true rfl) (Nat.le_of_ble_eq_true rfl) (nofun) (nofun) ?_
  intro v101 T101 h101 L101 q101 X101 XF101 K101
  obtain ⟨rfl, rfl⟩ := q101
  show Run _ _ _ _ _ _ _ _ _ _ _ _ T101 (mkF m 4 #[.val (.ref a), .val (.ref t), .val (.int (Int32.ofNat p')), .val (.int (0 : Int32))] [(.int (0 : Int32))])
  refine Run.via (fun _ => XS.iloadN X101.at X101.ex rfl (X101.de gbyd_4) rfl) ?_
  show Run _ _ _ _ _ _ _ _ _ _ _ _ T101 (mkF m 5 #[.val (.ref a), .val (.ref t), .val (.int (Int32.ofNat p')), .val (.int (0 : Int32))] [(.int (0 : Int32)), (.int (0 : Int32))])
  refine Run.via (fun _ => XS.icmpNo X101.at X101.ex rfl (X101.de gbyd_5) rfl (teq (by decide : ((0 : Int32) = (0 : Int32)))).2) ?_
  show Run _ _ _ _ _ _ _ _ _ _ _ _ T101 (mkF m 8 #[.val (.ref a), .val (.ref t), .val (.int (Int32.ofNat p')), .val (.int (0 : Int32))] [])
  refine Run.via (fun _ => XS.aloadN X101.at X101.ex rfl (X101.de gbyd_8) rfl rfl) ?_
  show Run _ _ _ _ _ _ _ _ _ _ _ _ T101 (mkF m 9 #[.val (.ref a), .val (.ref t), .val (.int (Int32.ofNat p')), .val (.int (0 : Int32))] [(.ref a)])
  refine Run.getf X101 (wd hw 20 rfl) Via.refl F1' gbyd_9 ?_
  intro T102 X102
  show Run _ _ _ _ _ _ _ _ _ _ _ _ T102 (mkF m 12 #[.val (.ref a), .val (.ref t), .val (.int (Int32.ofNat p')), .val (.int (0 : Int32))] [(.ref t')])
  refine Run.via (fun _ => XS.iconst X102.at X102.ex rfl (X102.de gbyd_12)) ?_
  show Run _ _ _ _ _ _ _ _ _ _ _ _ T102 (mkF m 13 #[.val (.ref a), .val (.ref t), .val (.int (Int32.ofNat p')), .val (.int (0 : Int32))] [(.int (0 : Int32)), (.ref t')])
  refine Run.via (fun _ => XS.aloadN X102.at X102.ex rfl (X102.de gbyd_13) rfl rfl) ?_
  show Run _ _ _ _ _ _ _ _ _ _ _ _ T102 (mkF m 14 #[.val (.ref a), .val (.ref t), .val (.int (Int32.ofNat p')), .val (.int (0 : Int32))] [(.ref t), (.int (0 : Int32)), (.ref t')])
  refine Run.via (fun _ => XS.iloadN X102.at X102.ex rfl (X102.de gbyd_14) rfl) ?_
  show Run _ _ _ _ _ _ _ _ _ _ _ _ T102 (mkF m 15 #[.val (.ref a), .val (.ref t), .val (.int (Int32.ofNat p')), .val (.int (0 : Int32))] [(.int (Int32.ofNat p')), (.ref t), (.int (0 : Int32)), (.ref t')])
  refine Run.via (fun _ => XS.iloadN X102.at X102.ex rfl (X102.de gbyd_15) rfl) ?_
  show Run _ _ _ _ _ _ _ _ _ _ _ _ T102 (mkF m 16 #[.val (.ref a), .val (.ref t), .val (.int (Int32.ofNat p')), .val (.int (0 : Int32))] [(.int (0 : Int32)), (.int (Int32.ofNat p')), (.ref t), (.int (0 : Int32)), (.ref t')])
  refine Run.via (fun _ => XS.ishl X102.at X102.ex rfl (X102.de gbyd_16) rfl) ?_
  show Run _ _ _ _ _ _ _ _ _ _ _ _ T102 (mkF m 17 #[.val (.ref a), .val (.ref t), .val (.int (Int32.ofNat p')), .val (.int (0 : Int32))] [(.int ((Int32.ofNat p') <<< ((0 : Int32) &&& 31))), (.ref t), (.int (0 : Int32)), (.ref t')])
  rw [show ((Int32.ofNat p') <<< ((0 : Int32) &&& 31)) = (Int32.ofNat p') from shl0' _]
  show Run _ _ _ _ _ _ _ _ _ _ _ _ T102 (mkF m 17 #[.val (.ref a), .val (.ref t), .val (.int (Int32.ofNat p')), .val (.int (0 : Int32))] [(.int (Int32.ofNat p')), (.ref t), (.int (0 : Int32)), (.ref t')])
  refine Run.via (fun _ => XS.aloadN X102.at X102.ex rfl (X102.de gbyd_17) rfl rfl) ?_
  show Run _ _ _ _ _ _ _ _ _ _ _ _ T102 (mkF m 18 #[.val (.ref a), .val (.ref t), .val (.int (Int32.ofNat p')), .val (.int (0 : Int32))] [(.ref a), (.int (Int32.ofNat p')), (.ref t), (.int (0 : Int32)), (.ref t')])
  refine Run.getf X102 (wd hw 20 rfl) Via.refl F1' gbyd_18 ?_
  intro T103 X103
  show Run _ _ _ _ _ _ _ _ _ _ _ _ T103 (mkF m 21 #[.val (.ref a), .val (.ref t), .val (.int (Int32.ofNat p')), .val (.int (0 : Int32))] [(.ref t'), (.int (Int32.ofNat p')), (.ref t), (.int (0 : Int32)), (.ref t')])
  refine Run.alen X103 A' gbyd_21 ?_
  show Run _ _ _ _ _ _ _ _ _ _ _ _ T103 (mkF m 22 #[.val (.ref a), .val (.ref t), .val (.int (Int32.ofNat p')), .val (.int (0 : Int32))] [(.int (Int32.ofNat (cs.map StrChars.lo8).length)), (.int (Int32.ofNat p')), (.ref t), (.int (0 : Int32)), (.ref t')])
  rw [show (Int32.ofNat (cs.map StrChars.lo8).length) = (Int32.ofNat cs.length) from by rw [List.length_map]]
  show Run _ _ _ _ _ _ _ _ _ _ _ _ T103 (mkF m 22 #[.val (.ref a), .val (.ref t), .val (.int (Int32.ofNat p')), .val (.int (0 : Int32))] [(.int (Int32.ofNat cs.length)), (.int (Int32.ofNat p')), (.ref t), (.int (0 : Int32)), (.ref t')])
  refine Run.acopy X103 (sp := 0) (dp := p') (nn := cs.length) (W := 0) A' A (by simp) hp (wd hw 90 rfl) (wd hw 93 rfl) (wd hw 91 rfl) (wd hw 92 rfl) (Or.inl (List.mem_singleton.mpr rfl)) hz (by simp) rfl gbyd_22 (Nat.le_of_ble_eq_true rfl) (by decide) (by decide) ?_
  intro T104 h104 L104 X104 K104 A104
  show Run _ _ _ _ _ _ _ _ _ _ _ _ T104 (mkF m 25 #[.val (.ref a), .val (.ref t), .val (.int (Int32.ofNat p')), .val (.int (0 : Int32))] [])
  refine Run.via (fun _ => XS.goto X104.at X104.ex rfl (pc0 := 25) (pc' := 43) rfl (X104.de gbyd_25) (by decide) (by decide)) ?_
  show Run _ _ _ _ _ _ _ _ _ _ _ _ T104 (mkF m 43 #[.val (.ref a), .val (.ref t), .val (.int (Int32.ofNat p')), .val (.int (0 : Int32))] [])
  exact Run.retV X104 rfl gbyd_43 (Nat.le_of_ble_eq_true rfl) (Nat.le_of_ble_eq_true rfl) (⟨rfl, by have q := A104; rw [List.drop_zero, List.take_of_length_le (l := cs.map StrChars.lo8) (by simp)] at q; exact q⟩)
-- part con_psa
theorem psad_0 : decode jdk_68_method_73_code 0 = .ok (.aload_n 0, 1) := by decide +kernel
theorem psad_1 : decode jdk_68_method_73_code 1 = .ok (.aload_n 2, 1) := by decide +kernel
theorem psad_2 : decode jdk_68_method_73_code 2 = .ok (.invokevirtual 397, 3) := by decide +kernel
theorem psad_5 : decode jdk_68_method_73_code 5 = .ok (.aload_n 2, 1) := by decide +kernel
theorem psad_6 : decode jdk_68_method_73_code 6 = .ok (.aload_n 0, 1) := by decide +kernel
theorem psad_7 : decode jdk_68_method_73_code 7 = .ok (.getfield 15, 3) := by decide +kernel
theorem psad_10 : decode jdk_68_method_73_code 10 = .ok (.iload_n 1, 1) := by decide +kernel
theorem psad_11 : decode jdk_68_method_73_code 11 = .ok (.aload_n 0, 1) := by decide +kernel
theorem psad_12 : decode jdk_68_method_73_code 12 = .ok (.getfield 22, 3) := by decide +kernel
theorem psad_15 : decode jdk_68_method_73_code 15 = .ok (.invokevirtual 399, 3) := by decide +kernel
theorem psad_18 : decode jdk_68_method_73_code 18 = .ok (.return_, 1) := by decide +kernel
set_option maxRecDepth 65536 in
set_option maxHeartbeats 40000000 in
theorem con_psa (l : Launch) {Z : State} {a0 : Array Value} {EL : List (String × Nat)} {h0 : Heap} (hw : ∀ d ∈ tables_1, d.before a0 Z = true) (hS : Sets Z) {a b t : Addr} {cs bs : List Int32} {p' : Nat} (hl : Lat cs) (S : Str Z h0 a cs) (B : Exa Z h0 b "java/lang/StringBuilder" ∧ Fld Z h0 b "java/lang/AbstractStringBuilder" "value" "[B" (.ref t) ∧ Fld Z h0 b "java/lang/AbstractStringBuilder" "coder" "B" (.int 0) ∧ True) (A : Arc .byte Z h0 t bs) (hp : p' + cs.length ≤ bs.length) (hz : Z.heap.size ≤ t) (O : Ext Z.heap h0) : Con l Z a0 EL svN false (⟨"java/lang/AbstractStringBuilder", "putStringAt", "(ILjava/lang/String;)V"⟩ : MethodName) jdk_68_method_73_code 3 none ({ frames := 2, cells := 0, slots := 0, locals := 56 } : Room) [t] [t] #[(.ref b), (.int (Int32.ofNat p')), (.ref a)] h0 (fun v h => v = none ∧ Arc .byte Z h t (bs.take p' ++ cs.map StrChars.lo8 ++ bs.drop (p' + cs.length))) := by
  obtain ⟨EB, FV, FC, -⟩ := id B
  have ES := S.1
  refine Con.enter (plainFor_of_name (by first | (simp [plainName, overriddenIn]; done) | decide +kernel)) O ?_
  intro p e s m below meth c T0 X0
  rw [show entryFrame m #[(.ref b), (.int (Int32.ofNat p')), (.ref a)] 3 = (mkF m 0 #[.val (.ref b), .val (.int (Int32.ofNat p')), .val (.ref a)] []) from by first | (simp [entryFrame, mkF, argsToLocals, Value.category]; done) | rfl]
  refine Run.via (fun _ => XS.aloadN X0.at X0.ex rfl (X0.de psad_0) rfl rfl) ?_
  show Run _ _ _ _ _ _ _ _ _ _ _ _ T0 (mkF m 1 #[.val (.ref b), .val (.int (Int32.ofNat p')), .val (.ref a)] [(.ref b)])
  refine Run.via (fun _ => XS.aloadN X0.at X0.ex rfl (X0.de psad_1) rfl rfl) ?_
  show Run _ _ _ _ _ _ _ _ _ _ _ _ T0 (mkF m 2 #[.val (.ref b), .val (.int (Int32.ofNat p')), .val (.ref a)] [(.ref a), (.ref b)])
  refine Run.callV X0 (y := (⟨"java/lang/AbstractStringBuilder", "inflateIfNeededFor", "(Ljava/lang/String;)V"⟩ : MethodName)) (W := 0) (con_inf l hw hS hl S FC O) EB (wd hw 79 rfl) (declares_of (wd hw 80 rfl) (wd hw 83 rfl)) (wd hw 80 rfl) (wd hw 82 rfl) (wd hw 38 rfl) (wd hw 83 rfl) (by decide) pd__Ljava_lang_String__V rfl (argsL := [(.ref a)]) (rest := []) rfl (Nat.le_of_ble_eq_true rfl) rfl psad_2 (by decide) (by decide) (Nat.le_of_ble_eq_true rfl) (Nat.le_of_ble_eq_true rfl) (nofun) (nofun) ?_
  intro v101 T101 h101 L101 q101 X101 XF101 K101
  obtain ⟨rfl, rfl⟩ := q101
  show Run _ _ _ _ _ _ _ _ _ _ _ _ T101 (mkF m 5 #[.val (.ref b), .val (.int (Int32.ofNat p')), .val (.ref a)] [])
  refine Run.via (fun _ => XS.aloadN X101.at X101.ex rfl (X101.de psad_5) rfl rfl) ?_
  show Run _ _ _ _ _ _ _ _ _ _ _ _ T101 (mkF m 6 #[.val (.ref b), .val (.int (Int32.ofNat p')), .val (.ref a)] [(.ref a)])
  refine Run.via (fun _ => XS.aloadN X101.at X101.ex rfl (X101.de psad_6) rfl rfl) ?_
  show Run _ _ _ _ _ _ _ _ _ _ _ _ T101 (mkF m 7 #[.val (.ref b), .val (.int (Int32.ofNat p')), .val (.ref a)] [(.ref b), (.ref a)])
  refine Run.getf X101 (wd hw 42 rfl) Via.refl FV psad_7 ?_
  intro T102 X102
  show Run _ _ _ _ _ _ _ _ _ _ _ _ T102 (mkF m 10 #[.val (.ref b), .val (.int (Int32.ofNat p')), .val (.ref a)] [(.ref t), (.ref a)])
  refine Run.via (fun _ => XS.iloadN X102.at X102.ex rfl (X102.de psad_10) rfl) ?_
  show Run _ _ _ _ _ _ _ _ _ _ _ _ T102 (mkF m 11 #[.val (.ref b), .val (.int (Int32.ofNat p')), .val (.ref a)] [(.int (Int32.ofNat p')), (.ref t), (.ref a)])
  refine Run.via (fun _ => XS.aloadN X102.at X102.ex rfl (X102.de psad_11) rfl rfl) ?_
  show Run _ _ _ _ _ _ _ _ _ _ _ _ T102 (mkF m 12 #[.val (.ref b), .val (.int (Int32.ofNat p')), .val (.ref a)] [(.ref b), (.int (Int32.ofNat p')), (.ref t), (.ref a)])
  refine Run.getf X102 (wd hw 44 rfl) Via.refl FC psad_12 ?_
  intro T103 X103
  show Run _ _ _ _ _ _ _ _ _ _ _ _ T103 (mkF m 15 #[.val (.ref b), .val (.int (Int32.ofNat p')), .val (.ref a)] [(.int (0 : Int32)), (.int (Int32.ofNat p')), (.ref t), (.ref a)])
  refine Run.callV X103 (y := (⟨"java/lang/String", "getBytes", "([BIB)V"⟩ : MethodName)) (W := 0) (con_gby l hw hS hl S A hp hz O) ES (wd hw 85 rfl) (wd hw 86 rfl) (wd hw 87 rfl) (wd hw 88 rfl) (wd hw 2 rfl) (wd hw 89 rfl) (by decide) pd___BIB_V rfl (argsL := [(.ref t), (.int (Int32.ofNat p')), (.int (0 : Int32))]) (rest := []) rfl (Nat.le_of_ble_eq_true rfl) rfl psad_15 (by decide) (by decide) (Nat.le_of_ble_eq_true rfl) (Nat.le_of_ble_eq_true rfl) (fun y hy => by cases List.mem_singleton.mp hy; exact ⟨Or.inl (List.mem_singleton.mpr rfl), hz⟩) (fun y hy => hy) ?_
  intro v104 T104 h104 L104 q104 X104 XF104 K104
  obtain ⟨rfl, A1⟩ := q104
  show Run _ _ _ _ _ _ _ _ _ _ _ _ T104 (mkF m 18 #[.val (.ref b), .val (.int (Int32.ofNat p')), .val (.ref a)] [])
  exact Run.retV X104 rfl psad_18 (Nat.le_of_ble_eq_true rfl) (Nat.le_of_ble_eq_true rfl) (⟨rfl, A1⟩)
-- part con_ec
theorem ecd_0 : decode jdk_68_method_9_code 0 = .ok (.aload_n 0, 1) := by decide +kernel
theorem ecd_1 : decode jdk_68_method_9_code 1 = .ok (.getfield 15, 3) := by decide +kernel
theorem ecd_4 : decode jdk_68_method_9_code 4 = .ok (.arraylength, 1) := by decide +kernel
theorem ecd_5 : decode jdk_68_method_9_code 5 = .ok (.aload_n 0, 1) := by decide +kernel
theorem ecd_6 : decode jdk_68_method_9_code 6 = .ok (.getfield 22, 3) := by decide +kernel
theorem ecd_9 : decode jdk_68_method_9_code 9 = .ok (.ishr, 1) := by decide +kernel
theorem ecd_10 : decode jdk_68_method_9_code 10 = .ok (.istore_n 2, 1) := by decide +kernel
theorem ecd_11 : decode jdk_68_method_9_code 11 = .ok (.iload_n 1, 1) := by decide +kernel
theorem ecd_12 : decode jdk_68_method_9_code 12 = .ok (.iload_n 2, 1) := by decide +kernel
theorem ecd_13 : decode jdk_68_method_9_code 13 = .ok (.isub, 1) := by decide +kernel
theorem ecd_14 : decode jdk_68_method_9_code 14 = .ok (.ifCond .le 24, 3) := by decide +kernel
theorem ecd_38 : decode jdk_68_method_9_code 38 = .ok (.return_, 1) := by decide +kernel
set_option maxRecDepth 65536 in
set_option maxHeartbeats 40000000 in
theorem con_ec (l : Launch) {Z : State} {a0 : Array Value} {EL : List (String × Nat)} {h0 : Heap} (hw : ∀ d ∈ tables_1, d.before a0 Z = true) {b t : Addr} {cs : List Int32} {n k : Nat} (B : SB Z h0 b t cs n) (hk : k ≤ cs.length + n) (O : Ext Z.heap h0) : Con l Z a0 EL svN false (⟨"java/lang/AbstractStringBuilder", "ensureCapacityInternal", "(I)V"⟩ : MethodName) jdk_68_method_9_code 3 none ({ frames := 0, cells := 0, slots := 0, locals := 0 } : Room) [] [] #[(.ref b), (.int (Int32.ofNat k))] h0 (fun v h => v = none ∧ h0 = h) := by
  have hb4 := B.cap
  refine Con.enter (plainFor_of_name (by first | (simp [plainName, overriddenIn]; done) | decide +kernel)) O ?_
  intro p e s m below meth c T0 X0
  rw [show entryFrame m #[(.ref b), (.int (Int32.ofNat k))] 3 = (mkF m 0 #[.val (.ref b), .val (.int (Int32.ofNat k)), .unset] []) from by first | (simp [entryFrame, mkF, argsToLocals, Value.category]; done) | rfl]
  refine Run.via (fun _ => XS.aloadN X0.at X0.ex rfl (X0.de ecd_0) rfl rfl) ?_
  show Run _ _ _ _ _ _ _ _ _ _ _ _ T0 (mkF m 1 #[.val (.ref b), .val (.int (Int32.ofNat k)), .unset] [(.ref b)])
  refine Run.getf X0 (wd hw 42 rfl) Via.refl B.2.1 ecd_1 ?_
  intro T101 X101
  show Run _ _ _ _ _ _ _ _ _ _ _ _ T101 (mkF m 4 #[.val (.ref b), .val (.int (Int32.ofNat k)), .unset] [(.ref t)])
  refine Run.alen X101 B.2.2.2.2.1 ecd_4 ?_
  show Run _ _ _ _ _ _ _ _ _ _ _ _ T101 (mkF m 5 #[.val (.ref b), .val (.int (Int32.ofNat k)), .unset] [(.int (Int32.ofNat (cs.map StrChars.lo8 ++ List.replicate n (0 : Int32)).length))])
  rw [show (Int32.ofNat (cs.map StrChars.lo8 ++ List.replicate n (0 : Int32)).length) = (Int32.ofNat (cs.length + n)) from by rw [sb_len]]
  show Run _ _ _ _ _ _ _ _ _ _ _ _ T101 (mkF m 5 #[.val (.ref b), .val (.int (Int32.ofNat k)), .unset] [(.int (Int32.ofNat (cs.length + n)))])
  refine Run.via (fun _ => XS.aloadN X101.at X101.ex rfl (X101.de ecd_5) rfl rfl) ?_
  show Run _ _ _ _ _ _ _ _ _ _ _ _ T101 (mkF m 6 #[.val (.ref b), .val (.int (Int32.ofNat k)), .unset] [(.ref b), (.int (Int32.ofNat (cs.length + n)))])
  refine Run.getf X101 (wd hw 44 rfl) Via.refl B.2.2.1 ecd_6 ?_
  intro T102 X102
  show Run _ _ _ _ _ _ _ _ _ _ _ _ T102 (mkF m 9 #[.val (.ref b), .val (.int (Int32.ofNat k)), .unset] [(.int (0 : Int32)), (.int (Int32.ofNat (cs.length + n)))])
  refine Run.via (fun _ => XS.ishr X102.at X102.ex rfl (X102.de ecd_9) rfl) ?_
  show Run _ _ _ _ _ _ _ _ _ _ _ _ T102 (mkF m 10 #[.val (.ref b), .val (.int (Int32.ofNat k)), .unset] [(.int ((Int32.ofNat (cs.length + n)) >>> ((0 : Int32) &&& 31)))])
  rw [show ((Int32.ofNat (cs.length + n)) >>> ((0 : Int32) &&& 31)) = (Int32.ofNat (cs.length + n)) from shr0' _]
  show Run _ _ _ _ _ _ _ _ _ _ _ _ T102 (mkF m 10 #[.val (.ref b), .val (.int (Int32.ofNat k)), .unset] [(.int (Int32.ofNat (cs.length + n)))])
  refine Run.via (fun _ => XS.istoreN X102.at X102.ex rfl (X102.de ecd_10) rfl (l' := #[.val (.ref b), .val (.int (Int32.ofNat k)), .val (.int (Int32.ofNat (cs.length + n)))]) rfl) ?_
  show Run _ _ _ _ _ _ _ _ _ _ _ _ T102 (mkF m 11 #[.val (.ref b), .val (.int (Int32.ofNat k)), .val (.int (Int32.ofNat (cs.length + n)))] [])
  refine Run.via (fun _ => XS.iloadN X102.at X102.ex rfl (X102.de ecd_11) rfl) ?_
  show Run _ _ _ _ _ _ _ _ _ _ _ _ T102 (mkF m 12 #[.val (.ref b), .val (.int (Int32.ofNat k)), .val (.int (Int32.ofNat (cs.length + n)))] [(.int (Int32.ofNat k))])
  refine Run.via (fun _ => XS.iloadN X102.at X102.ex rfl (X102.de ecd_12) rfl) ?_
  show Run _ _ _ _ _ _ _ _ _ _ _ _ T102 (mkF m 13 #[.val (.ref b), .val (.int (Int32.ofNat k)), .val (.int (Int32.ofNat (cs.length + n)))] [(.int (Int32.ofNat (cs.length + n))), (.int (Int32.ofNat k))])
  refine Run.via (fun _ => XS.isub X102.at X102.ex rfl (X102.de ecd_13) rfl) ?_
  show Run _ _ _ _ _ _ _ _ _ _ _ _ T102 (mkF m 14 #[.val (.ref b), .val (.int (Int32.ofNat k)), .val (.int (Int32.ofNat (cs.length + n)))] [(.int ((Int32.ofNat k) - (Int32.ofNat (cs.length + n))))])
  refine Run.via (fun _ => XS.ifYes X102.at X102.ex rfl (pc0 := 14) (pc' := 38) rfl (X102.de ecd_14) rfl ((if0 _ _).trans (flt (fun q => by have := (sub_pos (by omega) (by omega)).mp q; omega)).2.2.2) (by decide) (by decide)) ?_
  show Run _ _ _ _ _ _ _ _ _ _ _ _ T102 (mkF m 38 #[.val (.ref b), .val (.int (Int32.ofNat k)), .val (.int (Int32.ofNat (cs.length + n)))] [])
  exact Run.retV X102 rfl ecd_38 (Nat.le_of_ble_eq_true rfl) (Nat.le_of_ble_eq_true rfl) (⟨rfl, rfl⟩)
-- part con_ap
theorem ap0d_0 : decode jdk_68_method_22_code 0 = .ok (.aload_n 1, 1) := by decide +kernel
theorem ap0d_1 : decode jdk_68_method_22_code 1 = .ok (.ifnonnull 8, 3) := by decide +kernel
theorem ap0d_9 : decode jdk_68_method_22_code 9 = .ok (.aload_n 1, 1) := by decide +kernel
theorem ap0d_10 : decode jdk_68_method_22_code 10 = .ok (.invokevirtual 32, 3) := by decide +kernel
theorem ap0d_13 : decode jdk_68_method_22_code 13 = .ok (.istore_n 2, 1) := by decide +kernel
theorem ap0d_14 : decode jdk_68_method_22_code 14 = .ok (.aload_n 0, 1) := by decide +kernel
theorem ap0d_15 : decode jdk_68_method_22_code 15 = .ok (.aload_n 0, 1) := by decide +kernel
theorem ap0d_16 : decode jdk_68_method_22_code 16 = .ok (.getfield 79, 3) := by decide +kernel
theorem ap0d_19 : decode jdk_68_method_22_code 19 = .ok (.iload_n 2, 1) := by decide +kernel
theorem ap0d_20 : decode jdk_68_method_22_code 20 = .ok (.iadd, 1) := by decide +kernel
theorem ap0d_21 : decode jdk_68_method_22_code 21 = .ok (.invokevirtual 100, 3) := by decide +kernel
theorem ap0d_24 : decode jdk_68_method_22_code 24 = .ok (.aload_n 0, 1) := by decide +kernel
theorem ap0d_25 : decode jdk_68_method_22_code 25 = .ok (.aload_n 0, 1) := by decide +kernel
theorem ap0d_26 : decode jdk_68_method_22_code 26 = .ok (.getfield 79, 3) := by decide +kernel
theorem ap0d_29 : decode jdk_68_method_22_code 29 = .ok (.aload_n 1, 1) := by decide +kernel
theorem ap0d_30 : decode jdk_68_method_22_code 30 = .ok (.invokevirtual 208, 3) := by decide +kernel
theorem ap0d_33 : decode jdk_68_method_22_code 33 = .ok (.aload_n 0, 1) := by decide +kernel
theorem ap0d_34 : decode jdk_68_method_22_code 34 = .ok (.dup, 1) := by decide +kernel
theorem ap0d_35 : decode jdk_68_method_22_code 35 = .ok (.getfield 79, 3) := by decide +kernel
theorem ap0d_38 : decode jdk_68_method_22_code 38 = .ok (.iload_n 2, 1) := by decide +kernel
theorem ap0d_39 : decode jdk_68_method_22_code 39 = .ok (.iadd, 1) := by decide +kernel
theorem ap0d_40 : decode jdk_68_method_22_code 40 = .ok (.putfield 79, 3) := by decide +kernel
theorem ap0d_43 : decode jdk_68_method_22_code 43 = .ok (.aload_n 0, 1) := by decide +kernel
theorem ap0d_44 : decode jdk_68_method_22_code 44 = .ok (.areturn, 1) := by decide +kernel
set_option maxRecDepth 65536 in
set_option maxHeartbeats 40000000 in
theorem con_ap (l : Launch) {Z : State} {a0 : Array Value} {EL : List (String × Nat)} {h0 : Heap} (hw : ∀ d ∈ tables_1, d.before a0 Z = true) (hS : Sets Z) {a b t : Addr} {cs ds : List Int32} {n : Nat} (hl : Lat ds) (S : Str Z h0 a ds) (B : SB Z h0 b t cs n) (hzb : Z.heap.size ≤ b) (hzt : Z.heap.size ≤ t) (hk : ds.length ≤ n) (O : Ext Z.heap h0) : Con l Z a0 EL svN false (⟨"java/lang/AbstractStringBuilder", "append", "(Ljava/lang/String;)Ljava/lang/AbstractStringBuilder;"⟩ : MethodName) jdk_68_method_22_code 3 (some (.object "java/lang/AbstractStringBuilder")) ({ frames := 3, cells := 0, slots := 0, locals := 76 } : Room) [b, t] [t] #[(.ref b), (.ref a)] h0 (fun v h => v = some (.ref b) ∧ SB Z h b t (cs ++ ds) (n - ds.length)) := by
  have hl4 : ds.length ≤ 4000 := (S.lat hl).2.1
  have hb4 := B.cap
  have EB := B.1
  have hbt : @LT.lt Nat _ t h0.size := B.2.2.2.2.1.lt
  have hbb : @LT.lt Nat _ b h0.size := B.1.lt
  have ho := O.1
  refine Con.enter (plainFor_of_name (by first | (simp [plainName, overriddenIn]; done) | decide +kernel)) O ?_
  intro p e s m below meth c T0 X0
  rw [show entryFrame m #[(.ref b), (.ref a)] 3 = (mkF m 0 #[.val (.ref b), .val (.ref a), .unset] []) from by first | (simp [entryFrame, mkF, argsToLocals, Value.category]; done) | rfl]
  refine Run.via (fun _ => XS.aloadN X0.at X0.ex rfl (X0.de ap0d_0) rfl rfl) ?_
  show Run _ _ _ _ _ _ _ _ _ _ _ _ T0 (mkF m 1 #[.val (.ref b), .val (.ref a), .unset] [(.ref a)])
  refine Run.via (fun _ => XT.ifnonnullYes X0.at X0.ex rfl (pc0 := 1) (pc' := 9) rfl (X0.de ap0d_1) rfl (by decide) (by decide)) ?_
  show Run _ _ _ _ _ _ _ _ _ _ _ _ T0 (mkF m 9 #[.val (.ref b), .val (.ref a), .unset] [])
  refine Run.via (fun _ => XS.aloadN X0.at X0.ex rfl (X0.de ap0d_9) rfl rfl) ?_
  show Run _ _ _ _ _ _ _ _ _ _ _ _ T0 (mkF m 10 #[.val (.ref b), .val (.ref a), .unset] [(.ref a)])
  refine Run.slen hw hS X0 (W := 0) S (wd hw 56 rfl) (wd hw 57 rfl) (wd hw 58 rfl) (wd hw 59 rfl) (wd hw 1 rfl) ap0d_10 rfl (Nat.le_of_ble_eq_true rfl) (by decide) (by decide) (Nat.le_of_ble_eq_true rfl) (Nat.le_of_ble_eq_true rfl) ?_
  intro T101 X101
  show Run _ _ _ _ _ _ _ _ _ _ _ _ T101 (mkF m 13 #[.val (.ref b), .val (.ref a), .unset] [(.int (Int32.ofNat ds.length))])
  refine Run.via (fun _ => XS.istoreN X101.at X101.ex rfl (X101.de ap0d_13) rfl (l' := #[.val (.ref b), .val (.ref a), .val (.int (Int32.ofNat ds.length))]) rfl) ?_
  show Run _ _ _ _ _ _ _ _ _ _ _ _ T101 (mkF m 14 #[.val (.ref b), .val (.ref a), .val (.int (Int32.ofNat ds.length))] [])
  refine Run.via (fun _ => XS.aloadN X101.at X101.ex rfl (X101.de ap0d_14) rfl rfl) ?_
  show Run _ _ _ _ _ _ _ _ _ _ _ _ T101 (mkF m 15 #[.val (.ref b), .val (.ref a), .val (.int (Int32.ofNat ds.length))] [(.ref b)])
  refine Run.via (fun _ => XS.aloadN X101.at X101.ex rfl (X101.de ap0d_15) rfl rfl) ?_
  show Run _ _ _ _ _ _ _ _ _ _ _ _ T101 (mkF m 16 #[.val (.ref b), .val (.ref a), .val (.int (Int32.ofNat ds.length))] [(.ref b), (.ref b)])
  refine Run.getf X101 (wd hw 67 rfl) Via.refl B.2.2.2.1 ap0d_16 ?_
  intro T102 X102
  show Run _ _ _ _ _ _ _ _ _ _ _ _ T102 (mkF m 19 #[.val (.ref b), .val (.ref a), .val (.int (Int32.ofNat ds.length))] [(.int (Int32.ofNat cs.length)), (.ref b)])
  refine Run.via (fun _ => XS.iloadN X102.at X102.ex rfl (X102.de ap0d_19) rfl) ?_
  show Run _ _ _ _ _ _ _ _ _ _ _ _ T102 (mkF m 20 #[.val (.ref b), .val (.ref a), .val (.int (Int32.ofNat ds.length))] [(.int (Int32.ofNat ds.length)), (.int (Int32.ofNat cs.length)), (.ref b)])
  refine Run.via (fun _ => XS.iadd X102.at X102.ex rfl (X102.de ap0d_20) rfl) ?_
  show Run _ _ _ _ _ _ _ _ _ _ _ _ T102 (mkF m 21 #[.val (.ref b), .val (.ref a), .val (.int (Int32.ofNat ds.length))] [(.int ((Int32.ofNat cs.length) + (Int32.ofNat ds.length))), (.ref b)])
  rw [show ((Int32.ofNat cs.length) + (Int32.ofNat ds.length)) = (Int32.ofNat (cs.length + ds.length)) from i32add (by omega)]
  show Run _ _ _ _ _ _ _ _ _ _ _ _ T102 (mkF m 21 #[.val (.ref b), .val (.ref a), .val (.int (Int32.ofNat ds.length))] [(.int (Int32.ofNat (cs.length + ds.length))), (.ref b)])
  refine Run.callV X102 (y := (⟨"java/lang/AbstractStringBuilder", "ensureCapacityInternal", "(I)V"⟩ : MethodName)) (W := 0) (con_ec l hw B (k := cs.length + ds.length) (by omega) O) EB (wd hw 69 rfl) (declares_of (wd hw 70 rfl) (wd hw 73 rfl)) (wd hw 70 rfl) (wd hw 72 rfl) (wd hw 38 rfl) (wd hw 73 rfl) (by decide) pd__I_V rfl (argsL := [(.int (Int32.ofNat (cs.length + ds.length)))]) (rest := []) rfl (Nat.le_of_ble_eq_true rfl) rfl ap0d_21 (by decide) (by decide) (Nat.le_of_ble_eq_true rfl) (Nat.le_of_ble_eq_true rfl) (nofun) (nofun) ?_
  intro v103 T103 h103 L103 q103 X103 XF103 K103
  obtain ⟨rfl, rfl⟩ := q103
  show Run _ _ _ _ _ _ _ _ _ _ _ _ T103 (mkF m 24 #[.val (.ref b), .val (.ref a), .val (.int (Int32.ofNat ds.length))] [])
  refine Run.via (fun _ => XS.aloadN X103.at X103.ex rfl (X103.de ap0d_24) rfl rfl) ?_
  show Run _ _ _ _ _ _ _ _ _ _ _ _ T103 (mkF m 25 #[.val (.ref b), .val (.ref a), .val (.int (Int32.ofNat ds.length))] [(.ref b)])
  refine Run.via (fun _ => XS.aloadN X103.at X103.ex rfl (X103.de ap0d_25) rfl rfl) ?_
  show Run _ _ _ _ _ _ _ _ _ _ _ _ T103 (mkF m 26 #[.val (.ref b), .val (.ref a), .val (.int (Int32.ofNat ds.length))] [(.ref b), (.ref b)])
  refine Run.getf X103 (wd hw 67 rfl) Via.refl B.2.2.2.1 ap0d_26 ?_
  intro T104 X104
  show Run _ _ _ _ _ _ _ _ _ _ _ _ T104 (mkF m 29 #[.val (.ref b), .val (.ref a), .val (.int (Int32.ofNat ds.length))] [(.int (Int32.ofNat cs.length)), (.ref b)])
  refine Run.via (fun _ => XS.aloadN X104.at X104.ex rfl (X104.de ap0d_29) rfl rfl) ?_
  show Run _ _ _ _ _ _ _ _ _ _ _ _ T104 (mkF m 30 #[.val (.ref b), .val (.ref a), .val (.int (Int32.ofNat ds.length))] [(.ref a), (.int (Int32.ofNat cs.length)), (.ref b)])
  have EB2 := B.1
  refine Run.callV X104 (y := (⟨"java/lang/AbstractStringBuilder", "putStringAt", "(ILjava/lang/String;)V"⟩ : MethodName)) (W := 0) (con_psa l hw hS hl S ⟨B.1, B.2.1, B.2.2.1, trivial⟩ B.2.2.2.2.1 (p' := cs.length) (by rw [sb_len]; omega) hzt X104.old) EB2 (wd hw 74 rfl) (declares_of (wd hw 75 rfl) (wd hw 78 rfl)) (wd hw 75 rfl) (wd hw 77 rfl) (wd hw 38 rfl) (wd hw 78 rfl) (by decide) pd__ILjava_lang_String__V rfl (argsL := [(.int (Int32.ofNat cs.length)), (.ref a)]) (rest := []) rfl (Nat.le_of_ble_eq_true rfl) rfl ap0d_30 (by decide) (by decide) (Nat.le_of_ble_eq_true rfl) (Nat.le_of_ble_eq_true rfl) (fun y hy => by cases List.mem_singleton.mp hy; exact ⟨Or.inl (by simp), hzt⟩) (fun y hy => by cases List.mem_singleton.mp hy; simp) ?_
  intro v105 T105 h105 L105 q105 X105 XF105 K105
  obtain ⟨rfl, A1⟩ := q105
  show Run _ _ _ _ _ _ _ _ _ _ _ _ T105 (mkF m 33 #[.val (.ref b), .val (.ref a), .val (.int (Int32.ofNat ds.length))] [])
  have nb : b ≠ t := B.1.ne B.2.2.2.2.2 (by decide)
  rw [app_bytes cs ds n (by omega)] at A1
  have F1 := B.2.1.keep K105 (ninS nb nin0)
  have F2 := B.2.2.1.keep K105 (ninS nb nin0)
  have F3 := B.2.2.2.1.keep K105 (ninS nb nin0)
  have E1 := B.1.keep K105
  have E2 := B.2.2.2.2.2.keep K105
  refine Run.via (fun _ => XS.aloadN X105.at X105.ex rfl (X105.de ap0d_33) rfl rfl) ?_
  show Run _ _ _ _ _ _ _ _ _ _ _ _ T105 (mkF m 34 #[.val (.ref b), .val (.ref a), .val (.int (Int32.ofNat ds.length))] [(.ref b)])
  refine Run.via (fun _ => XS.dup X105.at X105.ex rfl (X105.de ap0d_34) rfl rfl) ?_
  show Run _ _ _ _ _ _ _ _ _ _ _ _ T105 (mkF m 35 #[.val (.ref b), .val (.ref a), .val (.int (Int32.ofNat ds.length))] [(.ref b), (.ref b)])
  refine Run.getf X105 (wd hw 67 rfl) Via.refl F3 ap0d_35 ?_
  intro T106 X106
  show Run _ _ _ _ _ _ _ _ _ _ _ _ T106 (mkF m 38 #[.val (.ref b), .val (.ref a), .val (.int (Int32.ofNat ds.length))] [(.int (Int32.ofNat cs.length)), (.ref b)])
  refine Run.via (fun _ => XS.iloadN X106.at X106.ex rfl (X106.de ap0d_38) rfl) ?_
  show Run _ _ _ _ _ _ _ _ _ _ _ _ T106 (mkF m 39 #[.val (.ref b), .val (.ref a), .val (.int (Int32.ofNat ds.length))] [(.int (Int32.ofNat ds.length)), (.int (Int32.ofNat cs.length)), (.ref b)])
  refine Run.via (fun _ => XS.iadd X106.at X106.ex rfl (X106.de ap0d_39) rfl) ?_
  show Run _ _ _ _ _ _ _ _ _ _ _ _ T106 (mkF m 40 #[.val (.ref b), .val (.ref a), .val (.int (Int32.ofNat ds.length))] [(.int ((Int32.ofNat cs.length) + (Int32.ofNat ds.length))), (.ref b)])
  rw [show ((Int32.ofNat cs.length) + (Int32.ofNat ds.length)) = (Int32.ofNat (cs.length + ds.length)) from i32add (by omega)]
  show Run _ _ _ _ _ _ _ _ _ _ _ _ T106 (mkF m 40 #[.val (.ref b), .val (.ref a), .val (.int (Int32.ofNat ds.length))] [(.int (Int32.ofNat (cs.length + ds.length))), (.ref b)])
  refine Run.putf X106 (wd hw 67 rfl) Via.refl F3 E1 (Or.inl (wd hw 68 rfl)) (wd hw 29 rfl) (ty := .int) (v' := (.int (Int32.ofNat (cs.length + ds.length)))) (by decide) rfl rfl (Or.inl (by simp)) hzb (Or.inl (by decide)) ap0d_40 ?_
  intro T107 h107 L107 X107 K107 W107 F107 E107
  show Run _ _ _ _ _ _ _ _ _ _ _ _ T107 (mkF m 43 #[.val (.ref b), .val (.ref a), .val (.int (Int32.ofNat ds.length))] [])
  have F1 := (F1.other W107 (Or.inr (slot_ne (Or.inl (wd hw 43 rfl)) (Or.inl (wd hw 68 rfl)) (by decide) (t := (.array .byte)) (t' := .int) (by decide) (by decide))))
  have F2 := (F2.other W107 (Or.inr (slot_ne (Or.inl (wd hw 45 rfl)) (Or.inl (wd hw 68 rfl)) (by decide) (t := .byte) (t' := .int) (by decide) (by decide))))
  have A2 := A1.keep K107 (ninS (Ne.symm nb) nin0)
  have E3 := E2.keep K107
  refine Run.via (fun _ => XS.aloadN X107.at X107.ex rfl (X107.de ap0d_43) rfl rfl) ?_
  show Run _ _ _ _ _ _ _ _ _ _ _ _ T107 (mkF m 44 #[.val (.ref b), .val (.ref a), .val (.int (Int32.ofNat ds.length))] [(.ref b)])
  exact Run.retA X107 (t := (.object "java/lang/AbstractStringBuilder")) rfl rfl rfl ap0d_44 (Nat.le_of_ble_eq_true rfl) (Nat.le_of_ble_eq_true rfl) (⟨rfl, E107, F1, F2, by rw [List.length_append]; exact F107, A2, E3⟩) (fun _ z => z.elim)
-- part con_as
theorem as0d_0 : decode jdk_67_method_7_code 0 = .ok (.aload_n 0, 1) := by decide +kernel
theorem as0d_1 : decode jdk_67_method_7_code 1 = .ok (.aload_n 1, 1) := by decide +kernel
theorem as0d_2 : decode jdk_67_method_7_code 2 = .ok (.invokespecial 29, 3) := by decide +kernel
theorem as0d_5 : decode jdk_67_method_7_code 5 = .ok (.pop, 1) := by decide +kernel
theorem as0d_6 : decode jdk_67_method_7_code 6 = .ok (.aload_n 0, 1) := by decide +kernel
theorem as0d_7 : decode jdk_67_method_7_code 7 = .ok (.areturn, 1) := by decide +kernel
set_option maxRecDepth 65536 in
set_option maxHeartbeats 40000000 in
theorem con_as (l : Launch) {Z : State} {a0 : Array Value} {EL : List (String × Nat)} {h0 : Heap} (hw : ∀ d ∈ tables_1, d.before a0 Z = true) (hS : Sets Z) {a b t : Addr} {cs ds : List Int32} {n : Nat} (hl : Lat ds) (S : Str Z h0 a ds) (B : SB Z h0 b t cs n) (hzb : Z.heap.size ≤ b) (hzt : Z.heap.size ≤ t) (hk : ds.length ≤ n) (O : Ext Z.heap h0) : Con l Z a0 EL svN false (⟨"java/lang/StringBuilder", "append", "(Ljava/lang/String;)Ljava/lang/StringBuilder;"⟩ : MethodName) jdk_67_method_7_code 2 (some (.object "java/lang/StringBuilder")) ({ frames := 4, cells := 0, slots := 0, locals := 92 } : Room) [b, t] [t] #[(.ref b), (.ref a)] h0 (fun v h => v = some (.ref b) ∧ SB Z h b t (cs ++ ds) (n - ds.length)) := by
  have EB := B.1
  have ho := O.1
  refine Con.enter (plainFor_of_name (by first | (simp [plainName, overriddenIn]; done) | decide +kernel)) O ?_
  intro p e s m below meth c T0 X0
  rw [show entryFrame m #[(.ref b), (.ref a)] 2 = (mkF m 0 #[.val (.ref b), .val (.ref a)] []) from by first | (simp [entryFrame, mkF, argsToLocals, Value.category]; done) | rfl]
  refine Run.via (fun _ => XS.aloadN X0.at X0.ex rfl (X0.de as0d_0) rfl rfl) ?_
  show Run _ _ _ _ _ _ _ _ _ _ _ _ T0 (mkF m 1 #[.val (.ref b), .val (.ref a)] [(.ref b)])
  refine Run.via (fun _ => XS.aloadN X0.at X0.ex rfl (X0.de as0d_1) rfl rfl) ?_
  show Run _ _ _ _ _ _ _ _ _ _ _ _ T0 (mkF m 2 #[.val (.ref b), .val (.ref a)] [(.ref a), (.ref b)])
  refine Run.callU X0 (y := (⟨"java/lang/AbstractStringBuilder", "append", "(Ljava/lang/String;)Ljava/lang/AbstractStringBuilder;"⟩ : MethodName)) (W := 0) (con_ap l hw hS hl S B hzb hzt hk O) EB (wd hw 51 rfl) (same_of_declares (wd hw 54 rfl) (by decide) (wd hw 72 rfl) rfl) (wd hw 52 rfl) (wd hw 53 rfl) (by decide) (wd hw 38 rfl) (wd hw 55 rfl) pd__Ljava_lang_String__Ljava_lang_AbstractStringBuilder_ rfl (argsL := [(.ref a)]) (rest := []) rfl (Nat.le_of_ble_eq_true rfl) rfl as0d_2 (by decide) (by decide) (Nat.le_of_ble_eq_true rfl) (Nat.le_of_ble_eq_true rfl) (two_ws hzb hzt) (fun y hy => hy) ?_
  intro v101 T101 h101 L101 q101 X101 XF101 K101
  obtain ⟨rfl, B2⟩ := q101
  show Run _ _ _ _ _ _ _ _ _ _ _ _ T101 (mkF m 5 #[.val (.ref b), .val (.ref a)] [(.ref b)])
  refine Run.via (fun _ => XS.pop X101.at X101.ex rfl (X101.de as0d_5) rfl rfl) ?_
  show Run _ _ _ _ _ _ _ _ _ _ _ _ T101 (mkF m 6 #[.val (.ref b), .val (.ref a)] [])
  refine Run.via (fun _ => XS.aloadN X101.at X101.ex rfl (X101.de as0d_6) rfl rfl) ?_
  show Run _ _ _ _ _ _ _ _ _ _ _ _ T101 (mkF m 7 #[.val (.ref b), .val (.ref a)] [(.ref b)])
  exact Run.retA X101 (t := (.object "java/lang/StringBuilder")) rfl rfl rfl as0d_7 (Nat.le_of_ble_eq_true rfl) (Nat.le_of_ble_eq_true rfl) (⟨rfl, B2⟩) (fun _ z => z.elim)
-- part con_nln
theorem nlnd_0 : decode jdk_48_method_27_code 0 = .ok (.iload_n 0, 1) := by decide +kernel
theorem nlnd_1 : decode jdk_48_method_27_code 1 = .ok (.iload_n 1, 1) := by decide +kernel
theorem nlnd_2 : decode jdk_48_method_27_code 2 = .ok (.iload_n 2, 1) := by decide +kernel
theorem nlnd_3 : decode jdk_48_method_27_code 3 = .ok (.invokestatic 194, 3) := by decide +kernel
theorem nlnd_6 : decode jdk_48_method_27_code 6 = .ok (.iadd, 1) := by decide +kernel
theorem nlnd_7 : decode jdk_48_method_27_code 7 = .ok (.istore_n 3, 1) := by decide +kernel
theorem nlnd_8 : decode jdk_48_method_27_code 8 = .ok (.iconst 0, 1) := by decide +kernel
theorem nlnd_9 : decode jdk_48_method_27_code 9 = .ok (.iload_n 3, 1) := by decide +kernel
theorem nlnd_10 : decode jdk_48_method_27_code 10 = .ok (.if_icmp .ge 11, 3) := by decide +kernel
theorem nlnd_13 : decode jdk_48_method_27_code 13 = .ok (.iload_n 3, 1) := by decide +kernel
theorem nlnd_14 : decode jdk_48_method_27_code 14 = .ok (.ldc 200, 2) := by decide +kernel
theorem nlnd_16 : decode jdk_48_method_27_code 16 = .ok (.if_icmp .gt 5, 3) := by decide +kernel
theorem nlnd_19 : decode jdk_48_method_27_code 19 = .ok (.iload_n 3, 1) := by decide +kernel
theorem nlnd_20 : decode jdk_48_method_27_code 20 = .ok (.ireturn, 1) := by decide +kernel
set_option maxRecDepth 65536 in
set_option maxHeartbeats 40000000 in
theorem con_nln (l : Launch) {Z : State} {a0 : Array Value} {EL : List (String × Nat)} {h0 : Heap} (hw : ∀ d ∈ tables_1, d.before a0 Z = true) {g : Nat} (hg : g ≤ 100) (O : Ext Z.heap h0) : Con l Z a0 EL svN false (⟨"jdk/internal/util/ArraysSupport", "newLength", "(III)I"⟩ : MethodName) jdk_48_method_27_code 4 (some .int) ({ frames := 1, cells := 0, slots := 0, locals := 16 } : Room) [] [] #[(.int (16 : Int32)), (.int (Int32.ofNat g)), (.int (18 : Int32))] h0 (fun v h => v = some (.int (Int32.ofNat (16 + max g 18))) ∧ h0 = h) := by
  refine Con.enter (plainFor_of_name (by first | (simp [plainName, overriddenIn]; done) | decide +kernel)) O ?_
  intro p e s m below meth c T0 X0
  rw [show entryFrame m #[(.int (16 : Int32)), (.int (Int32.ofNat g)), (.int (18 : Int32))] 4 = (mkF m 0 #[.val (.int (16 : Int32)), .val (.int (Int32.ofNat g)), .val (.int (18 : Int32)), .unset] []) from by first | (simp [entryFrame, mkF, argsToLocals, Value.category]; done) | rfl]
  refine Run.via (fun _ => XS.iloadN X0.at X0.ex rfl (X0.de nlnd_0) rfl) ?_
  show Run _ _ _ _ _ _ _ _ _ _ _ _ T0 (mkF m 1 #[.val (.int (16 : Int32)), .val (.int (Int32.ofNat g)), .val (.int (18 : Int32)), .unset] [(.int (16 : Int32))])
  refine Run.via (fun _ => XS.iloadN X0.at X0.ex rfl (X0.de nlnd_1) rfl) ?_
  show Run _ _ _ _ _ _ _ _ _ _ _ _ T0 (mkF m 2 #[.val (.int (16 : Int32)), .val (.int (Int32.ofNat g)), .val (.int (18 : Int32)), .unset] [(.int (Int32.ofNat g)), (.int (16 : Int32))])
  refine Run.via (fun _ => XS.iloadN X0.at X0.ex rfl (X0.de nlnd_2) rfl) ?_
  show Run _ _ _ _ _ _ _ _ _ _ _ _ T0 (mkF m 3 #[.val (.int (16 : Int32)), .val (.int (Int32.ofNat g)), .val (.int (18 : Int32)), .unset] [(.int (18 : Int32)), (.int (Int32.ofNat g)), (.int (16 : Int32))])
  refine Run.callS X0 (y := (⟨"java/lang/Math", "max", "(II)I"⟩ : MethodName)) (W := 1) (con_mx l hw (a := g) (b := 18) (by omega) (by omega) O) (wd hw 104 rfl) (wd hw 105 rfl) (wd hw 106 rfl) (wd hw 107 rfl) (by decide) pd__II_I rfl (argsL := [(.int (Int32.ofNat g)), (.int (18 : Int32))]) (rest := [(.int (16 : Int32))]) rfl (Nat.le_of_ble_eq_true rfl) rfl nlnd_3 (by decide) (by decide) (Nat.le_of_ble_eq_true rfl) (Nat.le_of_ble_eq_true rfl) (nofun) (nofun) ?_
  intro v101 T101 h101 L101 q101 X101 XF101 K101
  obtain ⟨rfl, rfl⟩ := q101
  show Run _ _ _ _ _ _ _ _ _ _ _ _ T101 (mkF m 6 #[.val (.int (16 : Int32)), .val (.int (Int32.ofNat g)), .val (.int (18 : Int32)), .unset] [(.int (Int32.ofNat (max g 18))), (.int (16 : Int32))])
  refine Run.via (fun _ => XS.iadd X101.at X101.ex rfl (X101.de nlnd_6) rfl) ?_
  show Run _ _ _ _ _ _ _ _ _ _ _ _ T101 (mkF m 7 #[.val (.int (16 : Int32)), .val (.int (Int32.ofNat g)), .val (.int (18 : Int32)), .unset] [(.int ((16 : Int32) + (Int32.ofNat (max g 18))))])
  rw [show ((16 : Int32) + (Int32.ofNat (max g 18))) = (Int32.ofNat (16 + max g 18)) from i32add (a := 16) (by omega)]
  show Run _ _ _ _ _ _ _ _ _ _ _ _ T101 (mkF m 7 #[.val (.int (16 : Int32)), .val (.int (Int32.ofNat g)), .val (.int (18 : Int32)), .unset] [(.int (Int32.ofNat (16 + max g 18)))])
  refine Run.via (fun _ => XS.istoreN X101.at X101.ex rfl (X101.de nlnd_7) rfl (l' := #[.val (.int (16 : Int32)), .val (.int (Int32.ofNat g)), .val (.int (18 : Int32)), .val (.int (Int32.ofNat (16 + max g 18)))]) rfl) ?_
  show Run _ _ _ _ _ _ _ _ _ _ _ _ T101 (mkF m 8 #[.val (.int (16 : Int32)), .val (.int (Int32.ofNat g)), .val (.int (18 : Int32)), .val (.int (Int32.ofNat (16 + max g 18)))] [])
  refine Run.via (fun _ => XS.iconst X101.at X101.ex rfl (X101.de nlnd_8)) ?_
  show Run _ _ _ _ _ _ _ _ _ _ _ _ T101 (mkF m 9 #[.val (.int (16 : Int32)), .val (.int (Int32.ofNat g)), .val (.int (18 : Int32)), .val (.int (Int32.ofNat (16 + max g 18)))] [(.int (0 : Int32))])
  refine Run.via (fun _ => XS.iloadN X101.at X101.ex rfl (X101.de nlnd_9) rfl) ?_
  show Run _ _ _ _ _ _ _ _ _ _ _ _ T101 (mkF m 10 #[.val (.int (16 : Int32)), .val (.int (Int32.ofNat g)), .val (.int (18 : Int32)), .val (.int (Int32.ofNat (16 + max g 18)))] [(.int (Int32.ofNat (16 + max g 18))), (.int (0 : Int32))])
  refine Run.via (fun _ => XS.icmpNo X101.at X101.ex rfl (X101.de nlnd_10) rfl (tlt ((i32lt (a := 0) (by omega) (by omega)).mpr (by omega))).2.1) ?_
  show Run _ _ _ _ _ _ _ _ _ _ _ _ T101 (mkF m 13 #[.val (.int (16 : Int32)), .val (.int (Int32.ofNat g)), .val (.int (18 : Int32)), .val (.int (Int32.ofNat (16 + max g 18)))] [])
  refine Run.via (fun _ => XS.iloadN X101.at X101.ex rfl (X101.de nlnd_13) rfl) ?_
  show Run _ _ _ _ _ _ _ _ _ _ _ _ T101 (mkF m 14 #[.val (.int (16 : Int32)), .val (.int (Int32.ofNat g)), .val (.int (18 : Int32)), .val (.int (Int32.ofNat (16 + max g 18)))] [(.int (Int32.ofNat (16 + max g 18)))])
  refine Run.ldcI X101 (wd hw 108 rfl) nlnd_14 ?_
  show Run _ _ _ _ _ _ _ _ _ _ _ _ T101 (mkF m 16 #[.val (.int (16 : Int32)), .val (.int (Int32.ofNat g)), .val (.int (18 : Int32)), .val (.int (Int32.ofNat (16 + max g 18)))] [(.int (2147483639 : Int32)), (.int (Int32.ofNat (16 + max g 18)))])
  have qb : ¬ (2147483639 : Int32) < Int32.ofNat (16 + max g 18) := by rw [Int32.lt_iff_toInt_lt, i32n (by omega)]; have : (2147483639 : Int32).toInt = 2147483639 := rfl; omega
  refine Run.via (fun _ => XS.icmpNo X101.at X101.ex rfl (X101.de nlnd_16) rfl (flt qb).2.2.1) ?_
  show Run _ _ _ _ _ _ _ _ _ _ _ _ T101 (mkF m 19 #[.val (.int (16 : Int32)), .val (.int (Int32.ofNat g)), .val (.int (18 : Int32)), .val (.int (Int32.ofNat (16 + max g 18)))] [])
  refine Run.via (fun _ => XS.iloadN X101.at X101.ex rfl (X101.de nlnd_19) rfl) ?_
  show Run _ _ _ _ _ _ _ _ _ _ _ _ T101 (mkF m 20 #[.val (.int (16 : Int32)), .val (.int (Int32.ofNat g)), .val (.int (18 : Int32)), .val (.int (Int32.ofNat (16 + max g 18)))] [(.int (Int32.ofNat (16 + max g 18)))])
  exact Run.retI X101 rfl nlnd_20 (Nat.le_of_ble_eq_true rfl) (Nat.le_of_ble_eq_true rfl) (⟨rfl, rfl⟩)
-- part con_ncp
theorem ncpd_0 : decode jdk_68_method_10_code 0 = .ok (.aload_n 0, 1) := by decide +kernel
theorem ncpd_1 : decode jdk_68_method_10_code 1 = .ok (.getfield 15, 3) := by decide +kernel
theorem ncpd_4 : decode jdk_68_method_10_code 4 = .ok (.arraylength, 1) := by decide +kernel
theorem ncpd_5 : decode jdk_68_method_10_code 5 = .ok (.istore_n 2, 1) := by decide +kernel
theorem ncpd_6 : decode jdk_68_method_10_code 6 = .ok (.iload_n 1, 1) := by decide +kernel
theorem ncpd_7 : decode jdk_68_method_10_code 7 = .ok (.aload_n 0, 1) := by decide +kernel
theorem ncpd_8 : decode jdk_68_method_10_code 8 = .ok (.getfield 22, 3) := by decide +kernel
theorem ncpd_11 : decode jdk_68_method_10_code 11 = .ok (.ishl, 1) := by decide +kernel
theorem ncpd_12 : decode jdk_68_method_10_code 12 = .ok (.istore_n 3, 1) := by decide +kernel
theorem ncpd_13 : decode jdk_68_method_10_code 13 = .ok (.iload_n 3, 1) := by decide +kernel
theorem ncpd_14 : decode jdk_68_method_10_code 14 = .ok (.iload_n 2, 1) := by decide +kernel
theorem ncpd_15 : decode jdk_68_method_10_code 15 = .ok (.isub, 1) := by decide +kernel
theorem ncpd_16 : decode jdk_68_method_10_code 16 = .ok (.istore 4, 2) := by decide +kernel
theorem ncpd_18 : decode jdk_68_method_10_code 18 = .ok (.iload_n 2, 1) := by decide +kernel
theorem ncpd_19 : decode jdk_68_method_10_code 19 = .ok (.iload 4, 2) := by decide +kernel
theorem ncpd_21 : decode jdk_68_method_10_code 21 = .ok (.iload_n 2, 1) := by decide +kernel
theorem ncpd_22 : decode jdk_68_method_10_code 22 = .ok (.iconst 2, 1) := by decide +kernel
theorem ncpd_23 : decode jdk_68_method_10_code 23 = .ok (.aload_n 0, 1) := by decide +kernel
theorem ncpd_24 : decode jdk_68_method_10_code 24 = .ok (.getfield 22, 3) := by decide +kernel
theorem ncpd_27 : decode jdk_68_method_10_code 27 = .ok (.ishl, 1) := by decide +kernel
theorem ncpd_28 : decode jdk_68_method_10_code 28 = .ok (.iadd, 1) := by decide +kernel
theorem ncpd_29 : decode jdk_68_method_10_code 29 = .ok (.invokestatic 114, 3) := by decide +kernel
theorem ncpd_32 : decode jdk_68_method_10_code 32 = .ok (.istore 5, 2) := by decide +kernel
theorem ncpd_34 : decode jdk_68_method_10_code 34 = .ok (.iload 5, 2) := by decide +kernel
theorem ncpd_36 : decode jdk_68_method_10_code 36 = .ok (.ldc 39, 2) := by decide +kernel
theorem ncpd_38 : decode jdk_68_method_10_code 38 = .ok (.if_icmp .ne 13, 3) := by decide +kernel
theorem ncpd_51 : decode jdk_68_method_10_code 51 = .ok (.iload 5, 2) := by decide +kernel
theorem ncpd_53 : decode jdk_68_method_10_code 53 = .ok (.aload_n 0, 1) := by decide +kernel
theorem ncpd_54 : decode jdk_68_method_10_code 54 = .ok (.getfield 22, 3) := by decide +kernel
theorem ncpd_57 : decode jdk_68_method_10_code 57 = .ok (.ishr, 1) := by decide +kernel
theorem ncpd_58 : decode jdk_68_method_10_code 58 = .ok (.ireturn, 1) := by decide +kernel
set_option maxRecDepth 65536 in
set_option maxHeartbeats 40000000 in
theorem con_ncp (l : Launch) {Z : State} {a0 : Array Value} {EL : List (String × Nat)} {h0 : Heap} (hw : ∀ d ∈ tables_1, d.before a0 Z = true) {b t : Addr} {cs : List Int32} {n k : Nat} (B : SB Z h0 b t cs n) (hcap : cs.length + n = 16) (hk1 : 32 ≤ k) (hk2 : k ≤ 35) (O : Ext Z.heap h0) : Con l Z a0 EL svN false (⟨"java/lang/AbstractStringBuilder", "newCapacity", "(I)I"⟩ : MethodName) jdk_68_method_10_code 6 (some .int) ({ frames := 2, cells := 0, slots := 0, locals := 34 } : Room) [] [] #[(.ref b), (.int (Int32.ofNat k))] h0 (fun v h => v = some (.int (Int32.ofNat (16 + max (k - 16) 18))) ∧ h0 = h) := by
  refine Con.enter (plainFor_of_name (by first | (simp [plainName, overriddenIn]; done) | decide +kernel)) O ?_
  intro p e s m below meth c T0 X0
  rw [show entryFrame m #[(.ref b), (.int (Int32.ofNat k))] 6 = (mkF m 0 #[.val (.ref b), .val (.int (Int32.ofNat k)), .unset, .unset, .unset, .unset] []) from by first | (simp [entryFrame, mkF, argsToLocals, Value.category]; done) | rfl]
  refine Run.via (fun _ => XS.aloadN X0.at X0.ex rfl (X0.de ncpd_0) rfl rfl) ?_
  show Run _ _ _ _ _ _ _ _ _ _ _ _ T0 (mkF m 1 #[.val (.ref b), .val (.int (Int32.ofNat k)), .unset, .unset, .unset, .unset] [(.ref b)])
  refine Run.getf X0 (wd hw 42 rfl) Via.refl B.2.1 ncpd_1 ?_
  intro T101 X101
  show Run _ _ _ _ _ _ _ _ _ _ _ _ T101 (mkF m 4 #[.val (.ref b), .val (.int (Int32.ofNat k)), .unset, .unset, .unset, .unset] [(.ref t)])
  refine Run.alen X101 B.2.2.2.2.1 ncpd_4 ?_
  show Run _ _ _ _ _ _ _ _ _ _ _ _ T101 (mkF m 5 #[.val (.ref b), .val (.int (Int32.ofNat k)), .unset, .unset, .unset, .unset] [(.int (Int32.ofNat (cs.map StrChars.lo8 ++ List.replicate n (0 : Int32)).length))])
  rw [show (Int32.ofNat (cs.map StrChars.lo8 ++ List.replicate n (0 : Int32)).length) = (16 : Int32) from by rw [sb_len, hcap]; rfl]
  show Run _ _ _ _ _ _ _ _ _ _ _ _ T101 (mkF m 5 #[.val (.ref b), .val (.int (Int32.ofNat k)), .unset, .unset, .unset, .unset] [(.int (16 : Int32))])
  refine Run.via (fun _ => XS.istoreN X101.at X101.ex rfl (X101.de ncpd_5) rfl (l' := #[.val (.ref b), .val (.int (Int32.ofNat k)), .val (.int (16 : Int32)), .unset, .unset, .unset]) rfl) ?_
  show Run _ _ _ _ _ _ _ _ _ _ _ _ T101 (mkF m 6 #[.val (.ref b), .val (.int (Int32.ofNat k)), .val (.int (16 : Int32)), .unset, .unset, .unset] [])
  refine Run.via (fun _ => XS.iloadN X101.at X101.ex rfl (X101.de ncpd_6) rfl) ?_
  show Run _ _ _ _ _ _ _ _ _ _ _ _ T101 (mkF m 7 #[.val (.ref b), .val (.int (Int32.ofNat k)), .val (.int (16 : Int32)), .unset, .unset, .unset] [(.int (Int32.ofNat k))])
  refine Run.via (fun _ => XS.aloadN X101.at X101.ex rfl (X101.de ncpd_7) rfl rfl) ?_
  show Run _ _ _ _ _ _ _ _ _ _ _ _ T101 (mkF m 8 #[.val (.ref b), .val (.int (Int32.ofNat k)), .val (.int (16 : Int32)), .unset, .unset, .unset] [(.ref b), (.int (Int32.ofNat k))])
  refine Run.getf X101 (wd hw 44 rfl) Via.refl B.2.2.1 ncpd_8 ?_
  intro T102 X102
  show Run _ _ _ _ _ _ _ _ _ _ _ _ T102 (mkF m 11 #[.val (.ref b), .val (.int (Int32.ofNat k)), .val (.int (16 : Int32)), .unset, .unset, .unset] [(.int (0 : Int32)), (.int (Int32.ofNat k))])
  refine Run.via (fun _ => XS.ishl X102.at X102.ex rfl (X102.de ncpd_11) rfl) ?_
  show Run _ _ _ _ _ _ _ _ _ _ _ _ T102 (mkF m 12 #[.val (.ref b), .val (.int (Int32.ofNat k)), .val (.int (16 : Int32)), .unset, .unset, .unset] [(.int ((Int32.ofNat k) <<< ((0 : Int32) &&& 31)))])
  rw [show ((Int32.ofNat k) <<< ((0 : Int32) &&& 31)) = (Int32.ofNat k) from shl0' _]
  show Run _ _ _ _ _ _ _ _ _ _ _ _ T102 (mkF m 12 #[.val (.ref b), .val (.int (Int32.ofNat k)), .val (.int (16 : Int32)), .unset, .unset, .unset] [(.int (Int32.ofNat k))])
  refine Run.via (fun _ => XS.istoreN X102.at X102.ex rfl (X102.de ncpd_12) rfl (l' := #[.val (.ref b), .val (.int (Int32.ofNat k)), .val (.int (16 : Int32)), .val (.int (Int32.ofNat k)), .unset, .unset]) rfl) ?_
  show Run _ _ _ _ _ _ _ _ _ _ _ _ T102 (mkF m 13 #[.val (.ref b), .val (.int (Int32.ofNat k)), .val (.int (16 : Int32)), .val (.int (Int32.ofNat k)), .unset, .unset] [])
  refine Run.via (fun _ => XS.iloadN X102.at X102.ex rfl (X102.de ncpd_13) rfl) ?_
  show Run _ _ _ _ _ _ _ _ _ _ _ _ T102 (mkF m 14 #[.val (.ref b), .val (.int (Int32.ofNat k)), .val (.int (16 : Int32)), .val (.int (Int32.ofNat k)), .unset, .unset] [(.int (Int32.ofNat k))])
  refine Run.via (fun _ => XS.iloadN X102.at X102.ex rfl (X102.de ncpd_14) rfl) ?_
  show Run _ _ _ _ _ _ _ _ _ _ _ _ T102 (mkF m 15 #[.val (.ref b), .val (.int (Int32.ofNat k)), .val (.int (16 : Int32)), .val (.int (Int32.ofNat k)), .unset, .unset] [(.int (16 : Int32)), (.int (Int32.ofNat k))])
  refine Run.via (fun _ => XS.isub X102.at X102.ex rfl (X102.de ncpd_15) rfl) ?_
  show Run _ _ _ _ _ _ _ _ _ _ _ _ T102 (mkF m 16 #[.val (.ref b), .val (.int (Int32.ofNat k)), .val (.int (16 : Int32)), .val (.int (Int32.ofNat k)), .unset, .unset] [(.int ((Int32.ofNat k) - (16 : Int32)))])
  rw [show ((Int32.ofNat k) - (16 : Int32)) = (Int32.ofNat (k - 16)) from i32sub (b := 16) (by omega) (by omega)]
  show Run _ _ _ _ _ _ _ _ _ _ _ _ T102 (mkF m 16 #[.val (.ref b), .val (.int (Int32.ofNat k)), .val (.int (16 : Int32)), .val (.int (Int32.ofNat k)), .unset, .unset] [(.int (Int32.ofNat (k - 16)))])
  refine Run.via (fun _ => XS.istore X102.at X102.ex rfl (X102.de ncpd_16) rfl (l' := #[.val (.ref b), .val (.int (Int32.ofNat k)), .val (.int (16 : Int32)), .val (.int (Int32.ofNat k)), .val (.int (Int32.ofNat (k - 16))), .unset]) rfl) ?_
  show Run _ _ _ _ _ _ _ _ _ _ _ _ T102 (mkF m 18 #[.val (.ref b), .val (.int (Int32.ofNat k)), .val (.int (16 : Int32)), .val (.int (Int32.ofNat k)), .val (.int (Int32.ofNat (k - 16))), .unset] [])
  refine Run.via (fun _ => XS.iloadN X102.at X102.ex rfl (X102.de ncpd_18) rfl) ?_
  show Run _ _ _ _ _ _ _ _ _ _ _ _ T102 (mkF m 19 #[.val (.ref b), .val (.int (Int32.ofNat k)), .val (.int (16 : Int32)), .val (.int (Int32.ofNat k)), .val (.int (Int32.ofNat (k - 16))), .unset] [(.int (16 : Int32))])
  refine Run.via (fun _ => XS.iload X102.at X102.ex rfl (X102.de ncpd_19) rfl) ?_
  show Run _ _ _ _ _ _ _ _ _ _ _ _ T102 (mkF m 21 #[.val (.ref b), .val (.int (Int32.ofNat k)), .val (.int (16 : Int32)), .val (.int (Int32.ofNat k)), .val (.int (Int32.ofNat (k - 16))), .unset] [(.int (Int32.ofNat (k - 16))), (.int (16 : Int32))])
  refine Run.via (fun _ => XS.iloadN X102.at X102.ex rfl (X102.de ncpd_21) rfl) ?_
  show Run _ _ _ _ _ _ _ _ _ _ _ _ T102 (mkF m 22 #[.val (.ref b), .val (.int (Int32.ofNat k)), .val (.int (16 : Int32)), .val (.int (Int32.ofNat k)), .val (.int (Int32.ofNat (k - 16))), .unset] [(.int (16 : Int32)), (.int (Int32.ofNat (k - 16))), (.int (16 : Int32))])
  refine Run.via (fun _ => XS.iconst X102.at X102.ex rfl (X102.de ncpd_22)) ?_
  show Run _ _ _ _ _ _ _ _ _ _ _ _ T102 (mkF m 23 #[.val (.ref b), .val (.int (Int32.ofNat k)), .val (.int (16 : Int32)), .val (.int (Int32.ofNat k)), .val (.int (Int32.ofNat (k - 16))), .unset] [(.int (2 : Int32)), (.int (16 : Int32)), (.int (Int32.ofNat (k - 16))), (.int (16 : Int32))])
  refine Run.via (fun _ => XS.aloadN X102.at X102.ex rfl (X102.de ncpd_23) rfl rfl) ?_
  show Run _ _ _ _ _ _ _ _ _ _ _ _ T102 (mkF m 24 #[.val (.ref b), .val (.int (Int32.ofNat k)), .val (.int (16 : Int32)), .val (.int (Int32.ofNat k)), .val (.int (Int32.ofNat (k - 16))), .unset] [(.ref b), (.int (2 : Int32)), (.int (16 : Int32)), (.int (Int32.ofNat (k - 16))), (.int (16 : Int32))])
  refine Run.getf X102 (wd hw 44 rfl) Via.refl B.2.2.1 ncpd_24 ?_
  intro T103 X103
  show Run _ _ _ _ _ _ _ _ _ _ _ _ T103 (mkF m 27 #[.val (.ref b), .val (.int (Int32.ofNat k)), .val (.int (16 : Int32)), .val (.int (Int32.ofNat k)), .val (.int (Int32.ofNat (k - 16))), .unset] [(.int (0 : Int32)), (.int (2 : Int32)), (.int (16 : Int32)), (.int (Int32.ofNat (k - 16))), (.int (16 : Int32))])
  refine Run.via (fun _ => XS.ishl X103.at X103.ex rfl (X103.de ncpd_27) rfl) ?_
  show Run _ _ _ _ _ _ _ _ _ _ _ _ T103 (mkF m 28 #[.val (.ref b), .val (.int (Int32.ofNat k)), .val (.int (16 : Int32)), .val (.int (Int32.ofNat k)), .val (.int (Int32.ofNat (k - 16))), .unset] [(.int ((2 : Int32) <<< ((0 : Int32) &&& 31))), (.int (16 : Int32)), (.int (Int32.ofNat (k - 16))), (.int (16 : Int32))])
  rw [show ((2 : Int32) <<< ((0 : Int32) &&& 31)) = (2 : Int32) from shl0' _]
  show Run _ _ _ _ _ _ _ _ _ _ _ _ T103 (mkF m 28 #[.val (.ref b), .val (.int (Int32.ofNat k)), .val (.int (16 : Int32)), .val (.int (Int32.ofNat k)), .val (.int (Int32.ofNat (k - 16))), .unset] [(.int (2 : Int32)), (.int (16 : Int32)), (.int (Int32.ofNat (k - 16))), (.int (16 : Int32))])
  refine Run.via (fun _ => XS.iadd X103.at X103.ex rfl (X103.de ncpd_28) rfl) ?_
  show Run _ _ _ _ _ _ _ _ _ _ _ _ T103 (mkF m 29 #[.val (.ref b), .val (.int (Int32.ofNat k)), .val (.int (16 : Int32)), .val (.int (Int32.ofNat k)), .val (.int (Int32.ofNat (k - 16))), .unset] [(.int (18 : Int32)), (.int (Int32.ofNat (k - 16))), (.int (16 : Int32))])
  refine Run.callS X103 (y := (⟨"jdk/internal/util/ArraysSupport", "newLength", "(III)I"⟩ : MethodName)) (W := 0) (con_nln l hw (g := k - 16) (by omega) O) (wd hw 100 rfl) (wd hw 101 rfl) (wd hw 102 rfl) (wd hw 103 rfl) (by decide) pd__III_I rfl (argsL := [(.int (16 : Int32)), (.int (Int32.ofNat (k - 16))), (.int (18 : Int32))]) (rest := []) rfl (Nat.le_of_ble_eq_true rfl) rfl ncpd_29 (by decide) (by decide) (Nat.le_of_ble_eq_true rfl) (Nat.le_of_ble_eq_true rfl) (nofun) (nofun) ?_
  intro v104 T104 h104 L104 q104 X104 XF104 K104
  obtain ⟨rfl, rfl⟩ := q104
  show Run _ _ _ _ _ _ _ _ _ _ _ _ T104 (mkF m 32 #[.val (.ref b), .val (.int (Int32.ofNat k)), .val (.int (16 : Int32)), .val (.int (Int32.ofNat k)), .val (.int (Int32.ofNat (k - 16))), .unset] [(.int (Int32.ofNat (16 + max (k - 16) 18)))])
  refine Run.via (fun _ => XS.istore X104.at X104.ex rfl (X104.de ncpd_32) rfl (l' := #[.val (.ref b), .val (.int (Int32.ofNat k)), .val (.int (16 : Int32)), .val (.int (Int32.ofNat k)), .val (.int (Int32.ofNat (k - 16))), .val (.int (Int32.ofNat (16 + max (k - 16) 18)))]) rfl) ?_
  show Run _ _ _ _ _ _ _ _ _ _ _ _ T104 (mkF m 34 #[.val (.ref b), .val (.int (Int32.ofNat k)), .val (.int (16 : Int32)), .val (.int (Int32.ofNat k)), .val (.int (Int32.ofNat (k - 16))), .val (.int (Int32.ofNat (16 + max (k - 16) 18)))] [])
  refine Run.via (fun _ => XS.iload X104.at X104.ex rfl (X104.de ncpd_34) rfl) ?_
  show Run _ _ _ _ _ _ _ _ _ _ _ _ T104 (mkF m 36 #[.val (.ref b), .val (.int (Int32.ofNat k)), .val (.int (16 : Int32)), .val (.int (Int32.ofNat k)), .val (.int (Int32.ofNat (k - 16))), .val (.int (Int32.ofNat (16 + max (k - 16) 18)))] [(.int (Int32.ofNat (16 + max (k - 16) 18)))])
  refine Run.ldcI X104 (wd hw 109 rfl) ncpd_36 ?_
  show Run _ _ _ _ _ _ _ _ _ _ _ _ T104 (mkF m 38 #[.val (.ref b), .val (.int (Int32.ofNat k)), .val (.int (16 : Int32)), .val (.int (Int32.ofNat k)), .val (.int (Int32.ofNat (k - 16))), .val (.int (Int32.ofNat (16 + max (k - 16) 18)))] [(.int (2147483647 : Int32)), (.int (Int32.ofNat (16 + max (k - 16) 18)))])
  have qm : ¬ Int32.ofNat (16 + max (k - 16) 18) = (2147483647 : Int32) := fun z => by have := congrArg Int32.toInt z; rw [i32n (by omega)] at this; have : (2147483647 : Int32).toInt = 2147483647 := rfl; omega
  refine Run.via (fun _ => XS.icmpYes X104.at X104.ex rfl (pc0 := 38) (pc' := 51) rfl (X104.de ncpd_38) rfl (feq qm).2 (by decide) (by decide)) ?_
  show Run _ _ _ _ _ _ _ _ _ _ _ _ T104 (mkF m 51 #[.val (.ref b), .val (.int (Int32.ofNat k)), .val (.int (16 : Int32)), .val (.int (Int32.ofNat k)), .val (.int (Int32.ofNat (k - 16))), .val (.int (Int32.ofNat (16 + max (k - 16) 18)))] [])
  refine Run.via (fun _ => XS.iload X104.at X104.ex rfl (X104.de ncpd_51) rfl) ?_
  show Run _ _ _ _ _ _ _ _ _ _ _ _ T104 (mkF m 53 #[.val (.ref b), .val (.int (Int32.ofNat k)), .val (.int (16 : Int32)), .val (.int (Int32.ofNat k)), .val (.int (Int32.ofNat (k - 16))), .val (.int (Int32.ofNat (16 + max (k - 16) 18)))] [(.int (Int32.ofNat (16 + max (k - 16) 18)))])
  refine Run.via (fun _ => XS.aloadN X104.at X104.ex rfl (X104.de ncpd_53) rfl rfl) ?_
  show Run _ _ _ _ _ _ _ _ _ _ _ _ T104 (mkF m 54 #[.val (.ref b), .val (.int (Int32.ofNat k)), .val (.int (16 : Int32)), .val (.int (Int32.ofNat k)), .val (.int (Int32.ofNat (k - 16))), .val (.int (Int32.ofNat (16 + max (k - 16) 18)))] [(.ref b), (.int (Int32.ofNat (16 + max (k - 16) 18)))])
  refine Run.getf X104 (wd hw 44 rfl) Via.refl B.2.2.1 ncpd_54 ?_
  intro T105 X105
  show Run _ _ _ _ _ _ _ _ _ _ _ _ T105 (mkF m 57 #[.val (.ref b), .val (.int (Int32.ofNat k)), .val (.int (16 : Int32)), .val (.int (Int32.ofNat k)), .val (.int (Int32.ofNat (k - 16))), .val (.int (Int32.ofNat (16 + max (k - 16) 18)))] [(.int (0 : Int32)), (.int (Int32.ofNat (16 + max (k - 16) 18)))])
  refine Run.via (fun _ => XS.ishr X105.at X105.ex rfl (X105.de ncpd_57) rfl) ?_
  show Run _ _ _ _ _ _ _ _ _ _ _ _ T105 (mkF m 58 #[.val (.ref b), .val (.int (Int32.ofNat k)), .val (.int (16 : Int32)), .val (.int (Int32.ofNat k)), .val (.int (Int32.ofNat (k - 16))), .val (.int (Int32.ofNat (16 + max (k - 16) 18)))] [(.int ((Int32.ofNat (16 + max (k - 16) 18)) >>> ((0 : Int32) &&& 31)))])
  rw [show ((Int32.ofNat (16 + max (k - 16) 18)) >>> ((0 : Int32) &&& 31)) = (Int32.ofNat (16 + max (k - 16) 18)) from shr0' _]
  show Run _ _ _ _ _ _ _ _ _ _ _ _ T105 (mkF m 58 #[.val (.ref b), .val (.int (Int32.ofNat k)), .val (.int (16 : Int32)), .val (.int (Int32.ofNat k)), .val (.int (Int32.ofNat (k - 16))), .val (.int (Int32.ofNat (16 + max (k - 16) 18)))] [(.int (Int32.ofNat (16 + max (k - 16) 18)))])
  exact Run.retI X105 rfl ncpd_58 (Nat.le_of_ble_eq_true rfl) (Nat.le_of_ble_eq_true rfl) (⟨rfl, rfl⟩)
-- part con_cof
theorem cofd_0 : decode jdk_65_method_121_code 0 = .ok (.iload_n 1, 1) := by decide +kernel
theorem cofd_1 : decode jdk_65_method_121_code 1 = .ok (.aload_n 0, 1) := by decide +kernel
theorem cofd_2 : decode jdk_65_method_121_code 2 = .ok (.arraylength, 1) := by decide +kernel
theorem cofd_3 : decode jdk_65_method_121_code 3 = .ok (.if_icmp .ne 11, 3) := by decide +kernel
theorem cofd_14 : decode jdk_65_method_121_code 14 = .ok (.iload_n 1, 1) := by decide +kernel
theorem cofd_15 : decode jdk_65_method_121_code 15 = .ok (.newarray .byte, 2) := by decide +kernel
theorem cofd_17 : decode jdk_65_method_121_code 17 = .ok (.astore_n 2, 1) := by decide +kernel
theorem cofd_18 : decode jdk_65_method_121_code 18 = .ok (.aload_n 0, 1) := by decide +kernel
theorem cofd_19 : decode jdk_65_method_121_code 19 = .ok (.iconst 0, 1) := by decide +kernel
theorem cofd_20 : decode jdk_65_method_121_code 20 = .ok (.aload_n 2, 1) := by decide +kernel
theorem cofd_21 : decode jdk_65_method_121_code 21 = .ok (.iconst 0, 1) := by decide +kernel
theorem cofd_22 : decode jdk_65_method_121_code 22 = .ok (.aload_n 0, 1) := by decide +kernel
theorem cofd_23 : decode jdk_65_method_121_code 23 = .ok (.arraylength, 1) := by decide +kernel
theorem cofd_24 : decode jdk_65_method_121_code 24 = .ok (.iload_n 1, 1) := by decide +kernel
theorem cofd_25 : decode jdk_65_method_121_code 25 = .ok (.invokestatic 304, 3) := by decide +kernel
theorem cofd_28 : decode jdk_65_method_121_code 28 = .ok (.invokestatic 150, 3) := by decide +kernel
theorem cofd_31 : decode jdk_65_method_121_code 31 = .ok (.aload_n 2, 1) := by decide +kernel
theorem cofd_32 : decode jdk_65_method_121_code 32 = .ok (.areturn, 1) := by decide +kernel
set_option maxRecDepth 65536 in
set_option maxHeartbeats 40000000 in
theorem con_cof (l : Launch) {Z : State} {a0 : Array Value} {EL : List (String × Nat)} {h0 : Heap} (hw : ∀ d ∈ tables_1, d.before a0 Z = true) {t : Addr} {bs : List Int32} {k : Nat} (A : Arc .byte Z h0 t bs) (hk1 : bs.length < k) (hk2 : k ≤ 35) (O : Ext Z.heap h0) : Con l Z a0 EL svR false (⟨"java/util/Arrays", "copyOf", "([BI)[B"⟩ : MethodName) jdk_65_method_121_code 3 (some (.array .byte)) ({ frames := 1, cells := 1, slots := 35, locals := 40 } : Room) [] [] #[(.ref t), (.int (Int32.ofNat k))] h0 (fun v h => ∃ x, v = some (.ref x) ∧ h0.size ≤ x ∧ Arc .byte Z h x (bs ++ List.replicate (k - bs.length) 0) ∧ Exa Z h x "[B") := by
  have hb4 : bs.length ≤ 4000 := by obtain ⟨_, _, r⟩ := A; exact r
  have hlt : @LT.lt Nat _ t h0.size := A.lt
  have ho := O.1
  refine Con.enter (plainFor_of_name (by first | (simp [plainName, overriddenIn]; done) | decide +kernel)) O ?_
  intro p e s m below meth c T0 X0
  rw [show entryFrame m #[(.ref t), (.int (Int32.ofNat k))] 3 = (mkF m 0 #[.val (.ref t), .val (.int (Int32.ofNat k)), .unset] []) from by first | (simp [entryFrame, mkF, argsToLocals, Value.category]; done) | rfl]
  refine Run.via (fun _ => XS.iloadN X0.at X0.ex rfl (X0.de cofd_0) rfl) ?_
  show Run _ _ _ _ _ _ _ _ _ _ _ _ T0 (mkF m 1 #[.val (.ref t), .val (.int (Int32.ofNat k)), .unset] [(.int (Int32.ofNat k))])
  refine Run.via (fun _ => XS.aloadN X0.at X0.ex rfl (X0.de cofd_1) rfl rfl) ?_
  show Run _ _ _ _ _ _ _ _ _ _ _ _ T0 (mkF m 2 #[.val (.ref t), .val (.int (Int32.ofNat k)), .unset] [(.ref t), (.int (Int32.ofNat k))])
  refine Run.alen X0 A cofd_2 ?_
  show Run _ _ _ _ _ _ _ _ _ _ _ _ T0 (mkF m 3 #[.val (.ref t), .val (.int (Int32.ofNat k)), .unset] [(.int (Int32.ofNat bs.length)), (.int (Int32.ofNat k))])
  refine Run.via (fun _ => XS.icmpYes X0.at X0.ex rfl (pc0 := 3) (pc' := 14) rfl (X0.de cofd_3) rfl (feq (fun z => absurd ((i32eq (by omega) (by omega)).mp z) (by omega))).2 (by decide) (by decide)) ?_
  show Run _ _ _ _ _ _ _ _ _ _ _ _ T0 (mkF m 14 #[.val (.ref t), .val (.int (Int32.ofNat k)), .unset] [])
  refine Run.via (fun _ => XS.iloadN X0.at X0.ex rfl (X0.de cofd_14) rfl) ?_
  show Run _ _ _ _ _ _ _ _ _ _ _ _ T0 (mkF m 15 #[.val (.ref t), .val (.int (Int32.ofNat k)), .unset] [(.int (Int32.ofNat k))])
  refine Run.newarrE X0 (n := k) (cap := 35) (wd hw 15 rfl) cofd_15 rfl hk2 (by decide) (Nat.le_of_ble_eq_true rfl) (Nat.le_of_ble_eq_true rfl) ?_
  intro T101 h101 x101 g101 X101 K101 z101 A101 E101
  show Run _ _ _ _ _ _ _ _ _ _ _ _ T101 (mkF m 17 #[.val (.ref t), .val (.int (Int32.ofNat k)), .unset] [(.ref x101)])
  refine Run.via (fun _ => XS.astoreN X101.at X101.ex rfl (X101.de cofd_17) rfl rfl (l' := #[.val (.ref t), .val (.int (Int32.ofNat k)), .val (.ref x101)]) rfl) ?_
  show Run _ _ _ _ _ _ _ _ _ _ _ _ T101 (mkF m 18 #[.val (.ref t), .val (.int (Int32.ofNat k)), .val (.ref x101)] [])
  refine Run.via (fun _ => XS.aloadN X101.at X101.ex rfl (X101.de cofd_18) rfl rfl) ?_
  show Run _ _ _ _ _ _ _ _ _ _ _ _ T101 (mkF m 19 #[.val (.ref t), .val (.int (Int32.ofNat k)), .val (.ref x101)] [(.ref t)])
  refine Run.via (fun _ => XS.iconst X101.at X101.ex rfl (X101.de cofd_19)) ?_
  show Run _ _ _ _ _ _ _ _ _ _ _ _ T101 (mkF m 20 #[.val (.ref t), .val (.int (Int32.ofNat k)), .val (.ref x101)] [(.int (0 : Int32)), (.ref t)])
  refine Run.via (fun _ => XS.aloadN X101.at X101.ex rfl (X101.de cofd_20) rfl rfl) ?_
  show Run _ _ _ _ _ _ _ _ _ _ _ _ T101 (mkF m 21 #[.val (.ref t), .val (.int (Int32.ofNat k)), .val (.ref x101)] [(.ref x101), (.int (0 : Int32)), (.ref t)])
  refine Run.via (fun _ => XS.iconst X101.at X101.ex rfl (X101.de cofd_21)) ?_
  show Run _ _ _ _ _ _ _ _ _ _ _ _ T101 (mkF m 22 #[.val (.ref t), .val (.int (Int32.ofNat k)), .val (.ref x101)] [(.int (0 : Int32)), (.ref x101), (.int (0 : Int32)), (.ref t)])
  refine Run.via (fun _ => XS.aloadN X101.at X101.ex rfl (X101.de cofd_22) rfl rfl) ?_
  show Run _ _ _ _ _ _ _ _ _ _ _ _ T101 (mkF m 23 #[.val (.ref t), .val (.int (Int32.ofNat k)), .val (.ref x101)] [(.ref t), (.int (0 : Int32)), (.ref x101), (.int (0 : Int32)), (.ref t)])
  refine Run.alen X101 (A.keep K101 nin0) cofd_23 ?_
  show Run _ _ _ _ _ _ _ _ _ _ _ _ T101 (mkF m 24 #[.val (.ref t), .val (.int (Int32.ofNat k)), .val (.ref x101)] [(.int (Int32.ofNat bs.length)), (.int (0 : Int32)), (.ref x101), (.int (0 : Int32)), (.ref t)])
  refine Run.via (fun _ => XS.iloadN X101.at X101.ex rfl (X101.de cofd_24) rfl) ?_
  show Run _ _ _ _ _ _ _ _ _ _ _ _ T101 (mkF m 25 #[.val (.ref t), .val (.int (Int32.ofNat k)), .val (.ref x101)] [(.int (Int32.ofNat k)), (.int (Int32.ofNat bs.length)), (.int (0 : Int32)), (.ref x101), (.int (0 : Int32)), (.ref t)])
  refine Run.callS X101 (y := (⟨"java/lang/Math", "min", "(II)I"⟩ : MethodName)) (W := 4) (con_mn l hw (a := bs.length) (b := k) (by omega) (by omega) X101.old) (wd hw 114 rfl) (wd hw 115 rfl) (wd hw 106 rfl) (wd hw 116 rfl) (by decide) pd__II_I rfl (argsL := [(.int (Int32.ofNat bs.length)), (.int (Int32.ofNat k))]) (rest := [(.int (0 : Int32)), (.ref x101), (.int (0 : Int32)), (.ref t)]) rfl (Nat.le_of_ble_eq_true rfl) rfl cofd_25 (by decide) (by decide) (Nat.le_of_ble_eq_true rfl) (Nat.le_of_ble_eq_true rfl) (nofun) (nofun) ?_
  intro v102 T102 h102 L102 q102 X102 XF102 K102
  obtain ⟨rfl, rfl⟩ := q102
  show Run _ _ _ _ _ _ _ _ _ _ _ _ T102 (mkF m 28 #[.val (.ref t), .val (.int (Int32.ofNat k)), .val (.ref x101)] [(.int (Int32.ofNat (min bs.length k))), (.int (0 : Int32)), (.ref x101), (.int (0 : Int32)), (.ref t)])
  rw [show (Int32.ofNat (min bs.length k)) = (Int32.ofNat bs.length) from by rw [Nat.min_eq_left (by omega)]]
  show Run _ _ _ _ _ _ _ _ _ _ _ _ T102 (mkF m 28 #[.val (.ref t), .val (.int (Int32.ofNat k)), .val (.ref x101)] [(.int (Int32.ofNat bs.length)), (.int (0 : Int32)), (.ref x101), (.int (0 : Int32)), (.ref t)])
  refine Run.acopy X102 (sp := 0) (dp := 0) (nn := bs.length) (W := 0) (A.keep K101 nin0) A101 (by simp) (by simp; omega) (wd hw 117 rfl) (wd hw 93 rfl) (wd hw 91 rfl) (wd hw 92 rfl) (Or.inr (by omega)) (by omega) (by simp) rfl cofd_28 (Nat.le_of_ble_eq_true rfl) (by decide) (by decide) ?_
  intro T103 h103 L103 X103 K103 A103
  show Run _ _ _ _ _ _ _ _ _ _ _ _ T103 (mkF m 31 #[.val (.ref t), .val (.int (Int32.ofNat k)), .val (.ref x101)] [])
  refine Run.via (fun _ => XS.aloadN X103.at X103.ex rfl (X103.de cofd_31) rfl rfl) ?_
  show Run _ _ _ _ _ _ _ _ _ _ _ _ T103 (mkF m 32 #[.val (.ref t), .val (.int (Int32.ofNat k)), .val (.ref x101)] [(.ref x101)])
  exact Run.retA X103 (t := (.array .byte)) rfl rfl rfl cofd_32 (Nat.le_of_ble_eq_true rfl) (Nat.le_of_ble_eq_true rfl) (⟨x101, rfl, by omega, by have q := A103; rw [List.take_zero, List.nil_append, List.drop_zero, List.take_of_length_le (Nat.le_refl _), Nat.zero_add, List.drop_replicate] at q; exact q, E101.keep K103⟩) (fun x hx => by cases hx; simp)
-- part con_eg
theorem egd_0 : decode jdk_68_method_9_code 0 = .ok (.aload_n 0, 1) := by decide +kernel
theorem egd_1 : decode jdk_68_method_9_code 1 = .ok (.getfield 15, 3) := by decide +kernel
theorem egd_4 : decode jdk_68_method_9_code 4 = .ok (.arraylength, 1) := by decide +kernel
theorem egd_5 : decode jdk_68_method_9_code 5 = .ok (.aload_n 0, 1) := by decide +kernel
theorem egd_6 : decode jdk_68_method_9_code 6 = .ok (.getfield 22, 3) := by decide +kernel
theorem egd_9 : decode jdk_68_method_9_code 9 = .ok (.ishr, 1) := by decide +kernel
theorem egd_10 : decode jdk_68_method_9_code 10 = .ok (.istore_n 2, 1) := by decide +kernel
theorem egd_11 : decode jdk_68_method_9_code 11 = .ok (.iload_n 1, 1) := by decide +kernel
theorem egd_12 : decode jdk_68_method_9_code 12 = .ok (.iload_n 2, 1) := by decide +kernel
theorem egd_13 : decode jdk_68_method_9_code 13 = .ok (.isub, 1) := by decide +kernel
theorem egd_14 : decode jdk_68_method_9_code 14 = .ok (.ifCond .le 24, 3) := by decide +kernel
theorem egd_17 : decode jdk_68_method_9_code 17 = .ok (.aload_n 0, 1) := by decide +kernel
theorem egd_18 : decode jdk_68_method_9_code 18 = .ok (.aload_n 0, 1) := by decide +kernel
theorem egd_19 : decode jdk_68_method_9_code 19 = .ok (.getfield 15, 3) := by decide +kernel
theorem egd_22 : decode jdk_68_method_9_code 22 = .ok (.aload_n 0, 1) := by decide +kernel
theorem egd_23 : decode jdk_68_method_9_code 23 = .ok (.iload_n 1, 1) := by decide +kernel
theorem egd_24 : decode jdk_68_method_9_code 24 = .ok (.invokevirtual 104, 3) := by decide +kernel
theorem egd_27 : decode jdk_68_method_9_code 27 = .ok (.aload_n 0, 1) := by decide +kernel
theorem egd_28 : decode jdk_68_method_9_code 28 = .ok (.getfield 22, 3) := by decide +kernel
theorem egd_31 : decode jdk_68_method_9_code 31 = .ok (.ishl, 1) := by decide +kernel
theorem egd_32 : decode jdk_68_method_9_code 32 = .ok (.invokestatic 108, 3) := by decide +kernel
theorem egd_35 : decode jdk_68_method_9_code 35 = .ok (.putfield 15, 3) := by decide +kernel
theorem egd_38 : decode jdk_68_method_9_code 38 = .ok (.return_, 1) := by decide +kernel
set_option maxRecDepth 65536 in
set_option maxHeartbeats 40000000 in
theorem con_eg (l : Launch) {Z : State} {a0 : Array Value} {EL : List (String × Nat)} {h0 : Heap} (hw : ∀ d ∈ tables_1, d.before a0 Z = true) (hS : Sets Z) {b t : Addr} {cs : List Int32} {n k : Nat} (B : SB Z h0 b t cs n) (hcap : cs.length + n = 16) (hk1 : 32 ≤ k) (hk2 : k ≤ 35) (hzb : Z.heap.size ≤ b) (O : Ext Z.heap h0) : Con l Z a0 EL (svB Z b) false (⟨"java/lang/AbstractStringBuilder", "ensureCapacityInternal", "(I)V"⟩ : MethodName) jdk_68_method_9_code 3 none ({ frames := 3, cells := 1, slots := 35, locals := 58 } : Room) [b] [] #[(.ref b), (.int (Int32.ofNat k))] h0 (fun v h => ∃ t2 n2, v = none ∧ h0.size ≤ t2 ∧ cs.length + n2 = 16 + max (k - 16) 18 ∧ SB Z h b t2 cs n2) := by
  have hb4 := B.cap
  have EB := B.1
  have hbb : @LT.lt Nat _ b h0.size := B.1.lt
  have ho := O.1
  refine Con.enter (plainFor_of_name (by first | (simp [plainName, overriddenIn]; done) | decide +kernel)) O ?_
  intro p e s m below meth c T0 X0
  rw [show entryFrame m #[(.ref b), (.int (Int32.ofNat k))] 3 = (mkF m 0 #[.val (.ref b), .val (.int (Int32.ofNat k)), .unset] []) from by first | (simp [entryFrame, mkF, argsToLocals, Value.category]; done) | rfl]
  refine Run.via (fun _ => XS.aloadN X0.at X0.ex rfl (X0.de egd_0) rfl rfl) ?_
  show Run _ _ _ _ _ _ _ _ _ _ _ _ T0 (mkF m 1 #[.val (.ref b), .val (.int (Int32.ofNat k)), .unset] [(.ref b)])
  refine Run.getf X0 (wd hw 42 rfl) Via.refl B.2.1 egd_1 ?_
  intro T101 X101
  show Run _ _ _ _ _ _ _ _ _ _ _ _ T101 (mkF m 4 #[.val (.ref b), .val (.int (Int32.ofNat k)), .unset] [(.ref t)])
  refine Run.alen X101 B.2.2.2.2.1 egd_4 ?_
  show Run _ _ _ _ _ _ _ _ _ _ _ _ T101 (mkF m 5 #[.val (.ref b), .val (.int (Int32.ofNat k)), .unset] [(.int (Int32.ofNat (cs.map StrChars.lo8 ++ List.replicate n (0 : Int32)).length))])
  rw [show (Int32.ofNat (cs.map StrChars.lo8 ++ List.replicate n (0 : Int32)).length) = (Int32.ofNat (cs.length + n)) from by rw [sb_len]]
  show Run _ _ _ _ _ _ _ _ _ _ _ _ T101 (mkF m 5 #[.val (.ref b), .val (.int (Int32.ofNat k)), .unset] [(.int (Int32.ofNat (cs.length + n)))])
  refine Run.via (fun _ => XS.aloadN X101.at X101.ex rfl (X101.de egd_5) rfl rfl) ?_
  show Run _ _ _ _ _ _ _ _ _ _ _ _ T101 (mkF m 6 #[.val (.ref b), .val (.int (Int32.ofNat k)), .unset] [(.ref b), (.int (Int32.ofNat (cs.length + n)))])
  refine Run.getf X101 (wd hw 44 rfl) Via.refl B.2.2.1 egd_6 ?_
  intro T102 X102
  show Run _ _ _ _ _ _ _ _ _ _ _ _ T102 (mkF m 9 #[.val (.ref b), .val (.int (Int32.ofNat k)), .unset] [(.int (0 : Int32)), (.int (Int32.ofNat (cs.length + n)))])
  refine Run.via (fun _ => XS.ishr X102.at X102.ex rfl (X102.de egd_9) rfl) ?_
  show Run _ _ _ _ _ _ _ _ _ _ _ _ T102 (mkF m 10 #[.val (.ref b), .val (.int (Int32.ofNat k)), .unset] [(.int ((Int32.ofNat (cs.length + n)) >>> ((0 : Int32) &&& 31)))])
  rw [show ((Int32.ofNat (cs.length + n)) >>> ((0 : Int32) &&& 31)) = (Int32.ofNat (cs.length + n)) from shr0' _]
  show Run _ _ _ _ _ _ _ _ _ _ _ _ T102 (mkF m 10 #[.val (.ref b), .val (.int (Int32.ofNat k)), .unset] [(.int (Int32.ofNat (cs.length + n)))])
  refine Run.via (fun _ => XS.istoreN X102.at X102.ex rfl (X102.de egd_10) rfl (l' := #[.val (.ref b), .val (.int (Int32.ofNat k)), .val (.int (Int32.ofNat (cs.length + n)))]) rfl) ?_
  show Run _ _ _ _ _ _ _ _ _ _ _ _ T102 (mkF m 11 #[.val (.ref b), .val (.int (Int32.ofNat k)), .val (.int (Int32.ofNat (cs.length + n)))] [])
  refine Run.via (fun _ => XS.iloadN X102.at X102.ex rfl (X102.de egd_11) rfl) ?_
  show Run _ _ _ _ _ _ _ _ _ _ _ _ T102 (mkF m 12 #[.val (.ref b), .val (.int (Int32.ofNat k)), .val (.int (Int32.ofNat (cs.length + n)))] [(.int (Int32.ofNat k))])
  refine Run.via (fun _ => XS.iloadN X102.at X102.ex rfl (X102.de egd_12) rfl) ?_
  show Run _ _ _ _ _ _ _ _ _ _ _ _ T102 (mkF m 13 #[.val (.ref b), .val (.int (Int32.ofNat k)), .val (.int (Int32.ofNat (cs.length + n)))] [(.int (Int32.ofNat (cs.length + n))), (.int (Int32.ofNat k))])
  refine Run.via (fun _ => XS.isub X102.at X102.ex rfl (X102.de egd_13) rfl) ?_
  show Run _ _ _ _ _ _ _ _ _ _ _ _ T102 (mkF m 14 #[.val (.ref b), .val (.int (Int32.ofNat k)), .val (.int (Int32.ofNat (cs.length + n)))] [(.int ((Int32.ofNat k) - (Int32.ofNat (cs.length + n))))])
  refine Run.via (fun _ => XS.ifNo X102.at X102.ex rfl (X102.de egd_14) rfl ((if0 _ _).trans (tlt ((sub_pos (by omega) (by omega)).mpr (by omega))).2.2.2)) ?_
  show Run _ _ _ _ _ _ _ _ _ _ _ _ T102 (mkF m 17 #[.val (.ref b), .val (.int (Int32.ofNat k)), .val (.int (Int32.ofNat (cs.length + n)))] [])
  refine Run.via (fun _ => XS.aloadN X102.at X102.ex rfl (X102.de egd_17) rfl rfl) ?_
  show Run _ _ _ _ _ _ _ _ _ _ _ _ T102 (mkF m 18 #[.val (.ref b), .val (.int (Int32.ofNat k)), .val (.int (Int32.ofNat (cs.length + n)))] [(.ref b)])
  refine Run.via (fun _ => XS.aloadN X102.at X102.ex rfl (X102.de egd_18) rfl rfl) ?_
  show Run _ _ _ _ _ _ _ _ _ _ _ _ T102 (mkF m 19 #[.val (.ref b), .val (.int (Int32.ofNat k)), .val (.int (Int32.ofNat (cs.length + n)))] [(.ref b), (.ref b)])
  refine Run.getf X102 (wd hw 42 rfl) Via.refl B.2.1 egd_19 ?_
  intro T103 X103
  show Run _ _ _ _ _ _ _ _ _ _ _ _ T103 (mkF m 22 #[.val (.ref b), .val (.int (Int32.ofNat k)), .val (.int (Int32.ofNat (cs.length + n)))] [(.ref t), (.ref b)])
  refine Run.via (fun _ => XS.aloadN X103.at X103.ex rfl (X103.de egd_22) rfl rfl) ?_
  show Run _ _ _ _ _ _ _ _ _ _ _ _ T103 (mkF m 23 #[.val (.ref b), .val (.int (Int32.ofNat k)), .val (.int (Int32.ofNat (cs.length + n)))] [(.ref b), (.ref t), (.ref b)])
  refine Run.via (fun _ => XS.iloadN X103.at X103.ex rfl (X103.de egd_23) rfl) ?_
  show Run _ _ _ _ _ _ _ _ _ _ _ _ T103 (mkF m 24 #[.val (.ref b), .val (.int (Int32.ofNat k)), .val (.int (Int32.ofNat (cs.length + n)))] [(.int (Int32.ofNat k)), (.ref b), (.ref t), (.ref b)])
  refine Run.callV X103 (y := (⟨"java/lang/AbstractStringBuilder", "newCapacity", "(I)I"⟩ : MethodName)) (W := 2) (con_ncp l hw B hcap hk1 hk2 O) EB (wd hw 95 rfl) (declares_of (wd hw 96 rfl) (wd hw 99 rfl)) (wd hw 96 rfl) (wd hw 98 rfl) (wd hw 38 rfl) (wd hw 99 rfl) (by decide) pd__I_I rfl (argsL := [(.int (Int32.ofNat k))]) (rest := [(.ref t), (.ref b)]) rfl (Nat.le_of_ble_eq_true rfl) rfl egd_24 (by decide) (by decide) (Nat.le_of_ble_eq_true rfl) (Nat.le_of_ble_eq_true rfl) (nofun) (nofun) ?_
  intro v104 T104 h104 L104 q104 X104 XF104 K104
  obtain ⟨rfl, rfl⟩ := q104
  show Run _ _ _ _ _ _ _ _ _ _ _ _ T104 (mkF m 27 #[.val (.ref b), .val (.int (Int32.ofNat k)), .val (.int (Int32.ofNat (cs.length + n)))] [(.int (Int32.ofNat (16 + max (k - 16) 18))), (.ref t), (.ref b)])
  refine Run.via (fun _ => XS.aloadN X104.at X104.ex rfl (X104.de egd_27) rfl rfl) ?_
  show Run _ _ _ _ _ _ _ _ _ _ _ _ T104 (mkF m 28 #[.val (.ref b), .val (.int (Int32.ofNat k)), .val (.int (Int32.ofNat (cs.length + n)))] [(.ref b), (.int (Int32.ofNat (16 + max (k - 16) 18))), (.ref t), (.ref b)])
  refine Run.getf X104 (wd hw 44 rfl) Via.refl B.2.2.1 egd_28 ?_
  intro T105 X105
  show Run _ _ _ _ _ _ _ _ _ _ _ _ T105 (mkF m 31 #[.val (.ref b), .val (.int (Int32.ofNat k)), .val (.int (Int32.ofNat (cs.length + n)))] [(.int (0 : Int32)), (.int (Int32.ofNat (16 + max (k - 16) 18))), (.ref t), (.ref b)])
  refine Run.via (fun _ => XS.ishl X105.at X105.ex rfl (X105.de egd_31) rfl) ?_
  show Run _ _ _ _ _ _ _ _ _ _ _ _ T105 (mkF m 32 #[.val (.ref b), .val (.int (Int32.ofNat k)), .val (.int (Int32.ofNat (cs.length + n)))] [(.int ((Int32.ofNat (16 + max (k - 16) 18)) <<< ((0 : Int32) &&& 31))), (.ref t), (.ref b)])
  rw [show ((Int32.ofNat (16 + max (k - 16) 18)) <<< ((0 : Int32) &&& 31)) = (Int32.ofNat (16 + max (k - 16) 18)) from shl0' _]
  show Run _ _ _ _ _ _ _ _ _ _ _ _ T105 (mkF m 32 #[.val (.ref b), .val (.int (Int32.ofNat k)), .val (.int (Int32.ofNat (cs.length + n)))] [(.int (Int32.ofNat (16 + max (k - 16) 18))), (.ref t), (.ref b)])
  refine Run.callS X105 (y := (⟨"java/util/Arrays", "copyOf", "([BI)[B"⟩ : MethodName)) (W := 1) (con_cof l hw B.2.2.2.2.1 (k := 16 + max (k - 16) 18) (by rw [sb_len]; omega) (by omega) O) (wd hw 110 rfl) (wd hw 111 rfl) (wd hw 112 rfl) (wd hw 113 rfl) (by decide) pd___BI__B rfl (argsL := [(.ref t), (.int (Int32.ofNat (16 + max (k - 16) 18)))]) (rest := [(.ref b)]) rfl (Nat.le_of_ble_eq_true rfl) rfl egd_32 (by decide) (by decide) (Nat.le_of_ble_eq_true rfl) (Nat.le_of_ble_eq_true rfl) (nofun) (nofun) ?_
  intro v106 T106 h106 L106 q106 X106 XF106 K106
  obtain ⟨x, rfl, gx, A1, E1⟩ := q106
  have X106 := XF106 _ rfl
  show Run _ _ _ _ _ _ _ _ _ _ _ _ T106 (mkF m 35 #[.val (.ref b), .val (.int (Int32.ofNat k)), .val (.int (Int32.ofNat (cs.length + n)))] [(.ref x), (.ref b)])
  rw [sb_len, List.append_assoc, List.replicate_append_replicate] at A1
  refine Run.putf X106 (wd hw 42 rfl) Via.refl (B.2.1.keep K106 nin0) (B.1.keep K106) (Or.inl (wd hw 43 rfl)) (wd hw 29 rfl) (ty := (.array .byte)) (v' := (.ref x)) (by decide) rfl rfl (Or.inl (List.mem_singleton.mpr rfl)) hzb (Or.inl (by decide)) egd_35 ?_
  intro T107 h107 L107 X107 K107 W107 F107 E107
  show Run _ _ _ _ _ _ _ _ _ _ _ _ T107 (mkF m 38 #[.val (.ref b), .val (.int (Int32.ofNat k)), .val (.int (Int32.ofNat (cs.length + n)))] [])
  have nb : x ≠ b := neA (by omega)
  have C1 := ((B.2.2.1.keep K106 nin0).other W107 (Or.inr (slot_ne (Or.inl (wd hw 45 rfl)) (Or.inl (wd hw 43 rfl)) (by decide) (t := .byte) (t' := (.array .byte)) (by decide) (by decide))))
  have N1 := ((B.2.2.2.1.keep K106 nin0).other W107 (Or.inr (slot_ne (Or.inl (wd hw 68 rfl)) (Or.inl (wd hw 43 rfl)) (by decide) (t := .int) (t' := (.array .byte)) (by decide) (by decide))))
  have A2 := A1.keep K107 (ninS nb nin0)
  have E2 := E1.keep K107
  exact Run.retV X107 rfl egd_38 (Nat.le_of_ble_eq_true rfl) (Nat.le_of_ble_eq_true rfl) (⟨x, _, rfl, gx, by omega, E107, F107, C1, N1, A2, E2⟩) (fun y hy => by cases fld_inj F107 hy; simp)
-- part con_apg
theorem ap1d_0 : decode jdk_68_method_22_code 0 = .ok (.aload_n 1, 1) := by decide +kernel
theorem ap1d_1 : decode jdk_68_method_22_code 1 = .ok (.ifnonnull 8, 3) := by decide +kernel
theorem ap1d_9 : decode jdk_68_method_22_code 9 = .ok (.aload_n 1, 1) := by decide +kernel
theorem ap1d_10 : decode jdk_68_method_22_code 10 = .ok (.invokevirtual 32, 3) := by decide +kernel
theorem ap1d_13 : decode jdk_68_method_22_code 13 = .ok (.istore_n 2, 1) := by decide +kernel
theorem ap1d_14 : decode jdk_68_method_22_code 14 = .ok (.aload_n 0, 1) := by decide +kernel
theorem ap1d_15 : decode jdk_68_method_22_code 15 = .ok (.aload_n 0, 1) := by decide +kernel
theorem ap1d_16 : decode jdk_68_method_22_code 16 = .ok (.getfield 79, 3) := by decide +kernel
theorem ap1d_19 : decode jdk_68_method_22_code 19 = .ok (.iload_n 2, 1) := by decide +kernel
theorem ap1d_20 : decode jdk_68_method_22_code 20 = .ok (.iadd, 1) := by decide +kernel
theorem ap1d_21 : decode jdk_68_method_22_code 21 = .ok (.invokevirtual 100, 3) := by decide +kernel
theorem ap1d_24 : decode jdk_68_method_22_code 24 = .ok (.aload_n 0, 1) := by decide +kernel
theorem ap1d_25 : decode jdk_68_method_22_code 25 = .ok (.aload_n 0, 1) := by decide +kernel
theorem ap1d_26 : decode jdk_68_method_22_code 26 = .ok (.getfield 79, 3) := by decide +kernel
theorem ap1d_29 : decode jdk_68_method_22_code 29 = .ok (.aload_n 1, 1) := by decide +kernel
theorem ap1d_30 : decode jdk_68_method_22_code 30 = .ok (.invokevirtual 208, 3) := by decide +kernel
theorem ap1d_33 : decode jdk_68_method_22_code 33 = .ok (.aload_n 0, 1) := by decide +kernel
theorem ap1d_34 : decode jdk_68_method_22_code 34 = .ok (.dup, 1) := by decide +kernel
theorem ap1d_35 : decode jdk_68_method_22_code 35 = .ok (.getfield 79, 3) := by decide +kernel
theorem ap1d_38 : decode jdk_68_method_22_code 38 = .ok (.iload_n 2, 1) := by decide +kernel
theorem ap1d_39 : decode jdk_68_method_22_code 39 = .ok (.iadd, 1) := by decide +kernel
theorem ap1d_40 : decode jdk_68_method_22_code 40 = .ok (.putfield 79, 3) := by decide +kernel
theorem ap1d_43 : decode jdk_68_method_22_code 43 = .ok (.aload_n 0, 1) := by decide +kernel
theorem ap1d_44 : decode jdk_68_method_22_code 44 = .ok (.areturn, 1) := by decide +kernel
set_option maxRecDepth 65536 in
set_option maxHeartbeats 40000000 in
theorem con_apg (l : Launch) {Z : State} {a0 : Array Value} {EL : List (String × Nat)} {h0 : Heap} (hw : ∀ d ∈ tables_1, d.before a0 Z = true) (hS : Sets Z) {a b t : Addr} {cs ds : List Int32} {n : Nat} (hl : Lat ds) (S : Str Z h0 a ds) (B : SB Z h0 b t cs n) (hzb : Z.heap.size ≤ b) (hcap : cs.length + n = 16) (hk1 : 32 ≤ cs.length + ds.length) (hk2 : cs.length + ds.length ≤ 35) (O : Ext Z.heap h0) : Con l Z a0 EL (svB Z b) false (⟨"java/lang/AbstractStringBuilder", "append", "(Ljava/lang/String;)Ljava/lang/AbstractStringBuilder;"⟩ : MethodName) jdk_68_method_22_code 3 (some (.object "java/lang/AbstractStringBuilder")) ({ frames := 4, cells := 1, slots := 35, locals := 76 } : Room) [b] [] #[(.ref b), (.ref a)] h0 (fun v h => ∃ t2 n2, v = some (.ref b) ∧ h0.size ≤ t2 ∧ (cs.length + ds.length) + n2 = 16 + max (cs.length + ds.length - 16) 18 ∧ SB Z h b t2 (cs ++ ds) n2) := by
  have hl4 : ds.length ≤ 4000 := (S.lat hl).2.1
  have hb4 := B.cap
  have EB := B.1
  have hbt : @LT.lt Nat _ t h0.size := B.2.2.2.2.1.lt
  have hbb : @LT.lt Nat _ b h0.size := B.1.lt
  have ho := O.1
  refine Con.enter (plainFor_of_name (by first | (simp [plainName, overriddenIn]; done) | decide +kernel)) O ?_
  intro p e s m below meth c T0 X0
  rw [show entryFrame m #[(.ref b), (.ref a)] 3 = (mkF m 0 #[.val (.ref b), .val (.ref a), .unset] []) from by first | (simp [entryFrame, mkF, argsToLocals, Value.category]; done) | rfl]
  refine Run.via (fun _ => XS.aloadN X0.at X0.ex rfl (X0.de ap1d_0) rfl rfl) ?_
  show Run _ _ _ _ _ _ _ _ _ _ _ _ T0 (mkF m 1 #[.val (.ref b), .val (.ref a), .unset] [(.ref a)])
  refine Run.via (fun _ => XT.ifnonnullYes X0.at X0.ex rfl (pc0 := 1) (pc' := 9) rfl (X0.de ap1d_1) rfl (by decide) (by decide)) ?_
  show Run _ _ _ _ _ _ _ _ _ _ _ _ T0 (mkF m 9 #[.val (.ref b), .val (.ref a), .unset] [])
  refine Run.via (fun _ => XS.aloadN X0.at X0.ex rfl (X0.de ap1d_9) rfl rfl) ?_
  show Run _ _ _ _ _ _ _ _ _ _ _ _ T0 (mkF m 10 #[.val (.ref b), .val (.ref a), .unset] [(.ref a)])
  refine Run.slen hw hS X0 (W := 0) S (wd hw 56 rfl) (wd hw 57 rfl) (wd hw 58 rfl) (wd hw 59 rfl) (wd hw 1 rfl) ap1d_10 rfl (Nat.le_of_ble_eq_true rfl) (by decide) (by decide) (Nat.le_of_ble_eq_true rfl) (Nat.le_of_ble_eq_true rfl) ?_
  intro T101 X101
  show Run _ _ _ _ _ _ _ _ _ _ _ _ T101 (mkF m 13 #[.val (.ref b), .val (.ref a), .unset] [(.int (Int32.ofNat ds.length))])
  refine Run.via (fun _ => XS.istoreN X101.at X101.ex rfl (X101.de ap1d_13) rfl (l' := #[.val (.ref b), .val (.ref a), .val (.int (Int32.ofNat ds.length))]) rfl) ?_
  show Run _ _ _ _ _ _ _ _ _ _ _ _ T101 (mkF m 14 #[.val (.ref b), .val (.ref a), .val (.int (Int32.ofNat ds.length))] [])
  refine Run.via (fun _ => XS.aloadN X101.at X101.ex rfl (X101.de ap1d_14) rfl rfl) ?_
  show Run _ _ _ _ _ _ _ _ _ _ _ _ T101 (mkF m 15 #[.val (.ref b), .val (.ref a), .val (.int (Int32.ofNat ds.length))] [(.ref b)])
  refine Run.via (fun _ => XS.aloadN X101.at X101.ex rfl (X101.de ap1d_15) rfl rfl) ?_
  show Run _ _ _ _ _ _ _ _ _ _ _ _ T101 (mkF m 16 #[.val (.ref b), .val (.ref a), .val (.int (Int32.ofNat ds.length))] [(.ref b), (.ref b)])
  refine Run.getf X101 (wd hw 67 rfl) Via.refl B.2.2.2.1 ap1d_16 ?_
  intro T102 X102
  show Run _ _ _ _ _ _ _ _ _ _ _ _ T102 (mkF m 19 #[.val (.ref b), .val (.ref a), .val (.int (Int32.ofNat ds.length))] [(.int (Int32.ofNat cs.length)), (.ref b)])
  refine Run.via (fun _ => XS.iloadN X102.at X102.ex rfl (X102.de ap1d_19) rfl) ?_
  show Run _ _ _ _ _ _ _ _ _ _ _ _ T102 (mkF m 20 #[.val (.ref b), .val (.ref a), .val (.int (Int32.ofNat ds.length))] [(.int (Int32.ofNat ds.length)), (.int (Int32.ofNat cs.length)), (.ref b)])
  refine Run.via (fun _ => XS.iadd X102.at X102.ex rfl (X102.de ap1d_20) rfl) ?_
  show Run _ _ _ _ _ _ _ _ _ _ _ _ T102 (mkF m 21 #[.val (.ref b), .val (.ref a), .val (.int (Int32.ofNat ds.length))] [(.int ((Int32.ofNat cs.length) + (Int32.ofNat ds.length))), (.ref b)])
  rw [show ((Int32.ofNat cs.length) + (Int32.ofNat ds.length)) = (Int32.ofNat (cs.length + ds.length)) from i32add (by omega)]
  show Run _ _ _ _ _ _ _ _ _ _ _ _ T102 (mkF m 21 #[.val (.ref b), .val (.ref a), .val (.int (Int32.ofNat ds.length))] [(.int (Int32.ofNat (cs.length + ds.length))), (.ref b)])
  refine Run.callV X102 (y := (⟨"java/lang/AbstractStringBuilder", "ensureCapacityInternal", "(I)V"⟩ : MethodName)) (W := 0) (con_eg l hw hS B hcap (k := cs.length + ds.length) hk1 hk2 hzb O) EB (wd hw 69 rfl) (declares_of (wd hw 70 rfl) (wd hw 73 rfl)) (wd hw 70 rfl) (wd hw 72 rfl) (wd hw 38 rfl) (wd hw 73 rfl) (by decide) pd__I_V rfl (argsL := [(.int (Int32.ofNat (cs.length + ds.length)))]) (rest := []) rfl (Nat.le_of_ble_eq_true rfl) rfl ap1d_21 (by decide) (by decide) (Nat.le_of_ble_eq_true rfl) (Nat.le_of_ble_eq_true rfl) (fun y hy => by cases List.mem_singleton.mp hy; exact ⟨Or.inl (by simp), hzb⟩) (nofun) ?_
  intro v103 T103 h103 L103 q103 X103 XF103 K103
  obtain ⟨t2, n2, rfl, gt2, hn2, B2⟩ := q103
  have X103 := XF103 _ B2.2.1
  show Run _ _ _ _ _ _ _ _ _ _ _ _ T103 (mkF m 24 #[.val (.ref b), .val (.ref a), .val (.int (Int32.ofNat ds.length))] [])
  have hzt : Z.heap.size ≤ t2 := by omega
  have S2 := S.keepB K103 B.1 (wd hw 1 rfl) (wd hw 29 rfl)
  have hb5 := B2.cap
  refine Run.via (fun _ => XS.aloadN X103.at X103.ex rfl (X103.de ap1d_24) rfl rfl) ?_
  show Run _ _ _ _ _ _ _ _ _ _ _ _ T103 (mkF m 25 #[.val (.ref b), .val (.ref a), .val (.int (Int32.ofNat ds.length))] [(.ref b)])
  refine Run.via (fun _ => XS.aloadN X103.at X103.ex rfl (X103.de ap1d_25) rfl rfl) ?_
  show Run _ _ _ _ _ _ _ _ _ _ _ _ T103 (mkF m 26 #[.val (.ref b), .val (.ref a), .val (.int (Int32.ofNat ds.length))] [(.ref b), (.ref b)])
  refine Run.getf X103 (wd hw 67 rfl) Via.refl B2.2.2.2.1 ap1d_26 ?_
  intro T104 X104
  show Run _ _ _ _ _ _ _ _ _ _ _ _ T104 (mkF m 29 #[.val (.ref b), .val (.ref a), .val (.int (Int32.ofNat ds.length))] [(.int (Int32.ofNat cs.length)), (.ref b)])
  refine Run.via (fun _ => XS.aloadN X104.at X104.ex rfl (X104.de ap1d_29) rfl rfl) ?_
  show Run _ _ _ _ _ _ _ _ _ _ _ _ T104 (mkF m 30 #[.val (.ref b), .val (.ref a), .val (.int (Int32.ofNat ds.length))] [(.ref a), (.int (Int32.ofNat cs.length)), (.ref b)])
  have EB2 := B2.1
  refine Run.callV X104 (y := (⟨"java/lang/AbstractStringBuilder", "putStringAt", "(ILjava/lang/String;)V"⟩ : MethodName)) (W := 0) (con_psa l hw hS hl S2 ⟨B2.1, B2.2.1, B2.2.2.1, trivial⟩ B2.2.2.2.2.1 (p' := cs.length) (by rw [sb_len]; omega) hzt X104.old) EB2 (wd hw 74 rfl) (declares_of (wd hw 75 rfl) (wd hw 78 rfl)) (wd hw 75 rfl) (wd hw 77 rfl) (wd hw 38 rfl) (wd hw 78 rfl) (by decide) pd__ILjava_lang_String__V rfl (argsL := [(.int (Int32.ofNat cs.length)), (.ref a)]) (rest := []) rfl (Nat.le_of_ble_eq_true rfl) rfl ap1d_30 (by decide) (by decide) (Nat.le_of_ble_eq_true rfl) (Nat.le_of_ble_eq_true rfl) (fun y hy => by cases List.mem_singleton.mp hy; exact ⟨Or.inr gt2, hzt⟩) (fun y hy => by cases List.mem_singleton.mp hy; simp) ?_
  intro v105 T105 h105 L105 q105 X105 XF105 K105
  obtain ⟨rfl, A1⟩ := q105
  show Run _ _ _ _ _ _ _ _ _ _ _ _ T105 (mkF m 33 #[.val (.ref b), .val (.ref a), .val (.int (Int32.ofNat ds.length))] [])
  have nb : b ≠ t2 := B2.1.ne B2.2.2.2.2.2 (by decide)
  rw [app_bytes cs ds n2 (by omega)] at A1
  have F1 := B2.2.1.keep K105 (ninS nb nin0)
  have F2 := B2.2.2.1.keep K105 (ninS nb nin0)
  have F3 := B2.2.2.2.1.keep K105 (ninS nb nin0)
  have E1 := B2.1.keep K105
  have E2 := B2.2.2.2.2.2.keep K105
  refine Run.via (fun _ => XS.aloadN X105.at X105.ex rfl (X105.de ap1d_33) rfl rfl) ?_
  show Run _ _ _ _ _ _ _ _ _ _ _ _ T105 (mkF m 34 #[.val (.ref b), .val (.ref a), .val (.int (Int32.ofNat ds.length))] [(.ref b)])
  refine Run.via (fun _ => XS.dup X105.at X105.ex rfl (X105.de ap1d_34) rfl rfl) ?_
  show Run _ _ _ _ _ _ _ _ _ _ _ _ T105 (mkF m 35 #[.val (.ref b), .val (.ref a), .val (.int (Int32.ofNat ds.length))] [(.ref b), (.ref b)])
  refine Run.getf X105 (wd hw 67 rfl) Via.refl F3 ap1d_35 ?_
  intro T106 X106
  show Run _ _ _ _ _ _ _ _ _ _ _ _ T106 (mkF m 38 #[.val (.ref b), .val (.ref a), .val (.int (Int32.ofNat ds.length))] [(.int (Int32.ofNat cs.length)), (.ref b)])
  refine Run.via (fun _ => XS.iloadN X106.at X106.ex rfl (X106.de ap1d_38) rfl) ?_
  show Run _ _ _ _ _ _ _ _ _ _ _ _ T106 (mkF m 39 #[.val (.ref b), .val (.ref a), .val (.int (Int32.ofNat ds.length))] [(.int (Int32.ofNat ds.length)), (.int (Int32.ofNat cs.length)), (.ref b)])
  refine Run.via (fun _ => XS.iadd X106.at X106.ex rfl (X106.de ap1d_39) rfl) ?_
  show Run _ _ _ _ _ _ _ _ _ _ _ _ T106 (mkF m 40 #[.val (.ref b), .val (.ref a), .val (.int (Int32.ofNat ds.length))] [(.int ((Int32.ofNat cs.length) + (Int32.ofNat ds.length))), (.ref b)])
  rw [show ((Int32.ofNat cs.length) + (Int32.ofNat ds.length)) = (Int32.ofNat (cs.length + ds.length)) from i32add (by omega)]
  show Run _ _ _ _ _ _ _ _ _ _ _ _ T106 (mkF m 40 #[.val (.ref b), .val (.ref a), .val (.int (Int32.ofNat ds.length))] [(.int (Int32.ofNat (cs.length + ds.length))), (.ref b)])
  refine Run.putf X106 (wd hw 67 rfl) Via.refl F3 E1 (Or.inl (wd hw 68 rfl)) (wd hw 29 rfl) (ty := .int) (v' := (.int (Int32.ofNat (cs.length + ds.length)))) (by decide) rfl rfl (Or.inl (by simp)) hzb (Or.inl (by decide)) ap1d_40 ?_
  intro T107 h107 L107 X107 K107 W107 F107 E107
  show Run _ _ _ _ _ _ _ _ _ _ _ _ T107 (mkF m 43 #[.val (.ref b), .val (.ref a), .val (.int (Int32.ofNat ds.length))] [])
  have F1 := (F1.other W107 (Or.inr (slot_ne (Or.inl (wd hw 43 rfl)) (Or.inl (wd hw 68 rfl)) (by decide) (t := (.array .byte)) (t' := .int) (by decide) (by decide))))
  have F2 := (F2.other W107 (Or.inr (slot_ne (Or.inl (wd hw 45 rfl)) (Or.inl (wd hw 68 rfl)) (by decide) (t := .byte) (t' := .int) (by decide) (by decide))))
  have A2 := A1.keep K107 (ninS (Ne.symm nb) nin0)
  have E3 := E2.keep K107
  refine Run.via (fun _ => XS.aloadN X107.at X107.ex rfl (X107.de ap1d_43) rfl rfl) ?_
  show Run _ _ _ _ _ _ _ _ _ _ _ _ T107 (mkF m 44 #[.val (.ref b), .val (.ref a), .val (.int (Int32.ofNat ds.length))] [(.ref b)])
  exact Run.retA X107 (t := (.object "java/lang/AbstractStringBuilder")) rfl rfl rfl ap1d_44 (Nat.le_of_ble_eq_true rfl) (Nat.le_of_ble_eq_true rfl) (⟨t2, n2 - ds.length, rfl, gt2, by omega, E107, F1, F2, by rw [List.length_append]; exact F107, A2, E3⟩) (fun x hx => by cases fld_inj F1 hx; simp)
-- part con_asg
theorem as1d_0 : decode jdk_67_method_7_code 0 = .ok (.aload_n 0, 1) := by decide +kernel
theorem as1d_1 : decode jdk_67_method_7_code 1 = .ok (.aload_n 1, 1) := by decide +kernel
theorem as1d_2 : decode jdk_67_method_7_code 2 = .ok (.invokespecial 29, 3) := by decide +kernel
theorem as1d_5 : decode jdk_67_method_7_code 5 = .ok (.pop, 1) := by decide +kernel
theorem as1d_6 : decode jdk_67_method_7_code 6 = .ok (.aload_n 0, 1) := by decide +kernel
theorem as1d_7 : decode jdk_67_method_7_code 7 = .ok (.areturn, 1) := by decide +kernel
set_option maxRecDepth 65536 in
set_option maxHeartbeats 40000000 in
theorem con_asg (l : Launch) {Z : State} {a0 : Array Value} {EL : List (String × Nat)} {h0 : Heap} (hw : ∀ d ∈ tables_1, d.before a0 Z = true) (hS : Sets Z) {a b t : Addr} {cs ds : List Int32} {n : Nat} (hl : Lat ds) (S : Str Z h0 a ds) (B : SB Z h0 b t cs n) (hzb : Z.heap.size ≤ b) (hcap : cs.length + n = 16) (hk1 : 32 ≤ cs.length + ds.length) (hk2 : cs.length + ds.length ≤ 35) (O : Ext Z.heap h0) : Con l Z a0 EL (svB Z b) false (⟨"java/lang/StringBuilder", "append", "(Ljava/lang/String;)Ljava/lang/StringBuilder;"⟩ : MethodName) jdk_67_method_7_code 2 (some (.object "java/lang/StringBuilder")) ({ frames := 5, cells := 1, slots := 35, locals := 92 } : Room) [b] [] #[(.ref b), (.ref a)] h0 (fun v h => ∃ t2 n2, v = some (.ref b) ∧ h0.size ≤ t2 ∧ (cs.length + ds.length) + n2 = 16 + max (cs.length + ds.length - 16) 18 ∧ SB Z h b t2 (cs ++ ds) n2) := by
  have EB := B.1
  have ho := O.1
  refine Con.enter (plainFor_of_name (by first | (simp [plainName, overriddenIn]; done) | decide +kernel)) O ?_
  intro p e s m below meth c T0 X0
  rw [show entryFrame m #[(.ref b), (.ref a)] 2 = (mkF m 0 #[.val (.ref b), .val (.ref a)] []) from by first | (simp [entryFrame, mkF, argsToLocals, Value.category]; done) | rfl]
  refine Run.via (fun _ => XS.aloadN X0.at X0.ex rfl (X0.de as1d_0) rfl rfl) ?_
  show Run _ _ _ _ _ _ _ _ _ _ _ _ T0 (mkF m 1 #[.val (.ref b), .val (.ref a)] [(.ref b)])
  refine Run.via (fun _ => XS.aloadN X0.at X0.ex rfl (X0.de as1d_1) rfl rfl) ?_
  show Run _ _ _ _ _ _ _ _ _ _ _ _ T0 (mkF m 2 #[.val (.ref b), .val (.ref a)] [(.ref a), (.ref b)])
  refine Run.callU X0 (y := (⟨"java/lang/AbstractStringBuilder", "append", "(Ljava/lang/String;)Ljava/lang/AbstractStringBuilder;"⟩ : MethodName)) (W := 0) (con_apg l hw hS hl S B hzb hcap hk1 hk2 O) EB (wd hw 51 rfl) (same_of_declares (wd hw 54 rfl) (by decide) (wd hw 72 rfl) rfl) (wd hw 52 rfl) (wd hw 53 rfl) (by decide) (wd hw 38 rfl) (wd hw 55 rfl) pd__Ljava_lang_String__Ljava_lang_AbstractStringBuilder_ rfl (argsL := [(.ref a)]) (rest := []) rfl (Nat.le_of_ble_eq_true rfl) rfl as1d_2 (by decide) (by decide) (Nat.le_of_ble_eq_true rfl) (Nat.le_of_ble_eq_true rfl) (fun y hy => by cases List.mem_singleton.mp hy; exact ⟨Or.inl (by simp), hzb⟩) (nofun) ?_
  intro v101 T101 h101 L101 q101 X101 XF101 K101
  obtain ⟨t2, n2, rfl, gt2, hn2, B2⟩ := q101
  have X101 := XF101 _ B2.2.1
  show Run _ _ _ _ _ _ _ _ _ _ _ _ T101 (mkF m 5 #[.val (.ref b), .val (.ref a)] [(.ref b)])
  refine Run.via (fun _ => XS.pop X101.at X101.ex rfl (X101.de as1d_5) rfl rfl) ?_
  show Run _ _ _ _ _ _ _ _ _ _ _ _ T101 (mkF m 6 #[.val (.ref b), .val (.ref a)] [])
  refine Run.via (fun _ => XS.aloadN X101.at X101.ex rfl (X101.de as1d_6) rfl rfl) ?_
  show Run _ _ _ _ _ _ _ _ _ _ _ _ T101 (mkF m 7 #[.val (.ref b), .val (.ref a)] [(.ref b)])
  exact Run.retA X101 (t := (.object "java/lang/StringBuilder")) rfl rfl rfl as1d_7 (Nat.le_of_ble_eq_true rfl) (Nat.le_of_ble_eq_true rfl) (⟨t2, n2, rfl, gt2, hn2, B2⟩) (fun x hx => by cases fld_inj B2.2.1 hx; simp)
-- part con_cl
theorem cld_0 : decode jdk_65_method_131_code 0 = .ok (.iload_n 1, 1) := by decide +kernel
theorem cld_1 : decode jdk_65_method_131_code 1 = .ok (.iload_n 0, 1) := by decide +kernel
theorem cld_2 : decode jdk_65_method_131_code 2 = .ok (.if_icmp .ge 35, 3) := by decide +kernel
theorem cld_37 : decode jdk_65_method_131_code 37 = .ok (.return_, 1) := by decide +kernel
set_option maxRecDepth 65536 in
set_option maxHeartbeats 40000000 in
theorem con_cl (l : Launch) {Z : State} {a0 : Array Value} {EL : List (String × Nat)} {h0 : Heap} (hw : ∀ d ∈ tables_1, d.before a0 Z = true) {a b : Nat} (h : a ≤ b) (hb : b ≤ 4000) (O : Ext Z.heap h0) : Con l Z a0 EL svN false (⟨"java/util/Arrays", "checkLength", "(II)V"⟩ : MethodName) jdk_65_method_131_code 2 none ({ frames := 0, cells := 0, slots := 0, locals := 0 } : Room) [] [] #[(.int (Int32.ofNat a)), (.int (Int32.ofNat b))] h0 (fun v h => v = none ∧ h0 = h) := by
  refine Con.enter (plainFor_of_name (by first | (simp [plainName, overriddenIn]; done) | decide +kernel)) O ?_
  intro p e s m below meth c T0 X0
  rw [show entryFrame m #[(.int (Int32.ofNat a)), (.int (Int32.ofNat b))] 2 = (mkF m 0 #[.val (.int (Int32.ofNat a)), .val (.int (Int32.ofNat b))] []) from by first | (simp [entryFrame, mkF, argsToLocals, Value.category]; done) | rfl]
  refine Run.via (fun _ => XS.iloadN X0.at X0.ex rfl (X0.de cld_0) rfl) ?_
  show Run _ _ _ _ _ _ _ _ _ _ _ _ T0 (mkF m 1 #[.val (.int (Int32.ofNat a)), .val (.int (Int32.ofNat b))] [(.int (Int32.ofNat b))])
  refine Run.via (fun _ => XS.iloadN X0.at X0.ex rfl (X0.de cld_1) rfl) ?_
  show Run _ _ _ _ _ _ _ _ _ _ _ _ T0 (mkF m 2 #[.val (.int (Int32.ofNat a)), .val (.int (Int32.ofNat b))] [(.int (Int32.ofNat a)), (.int (Int32.ofNat b))])
  refine Run.via (fun _ => XS.icmpYes X0.at X0.ex rfl (pc0 := 2) (pc' := 37) rfl (X0.de cld_2) rfl (flt (fun q => by have := (i32lt (by omega) (by omega)).mp q; omega)).2.1 (by decide) (by decide)) ?_
  show Run _ _ _ _ _ _ _ _ _ _ _ _ T0 (mkF m 37 #[.val (.int (Int32.ofNat a)), .val (.int (Int32.ofNat b))] [])
  exact Run.retV X0 rfl cld_37 (Nat.le_of_ble_eq_true rfl) (Nat.le_of_ble_eq_true rfl) (⟨rfl, rfl⟩)
-- part con_cb
theorem cbd_0 : decode jdk_65_method_133_code 0 = .ok (.iload_n 1, 1) := by decide +kernel
theorem cbd_1 : decode jdk_65_method_133_code 1 = .ok (.iload_n 2, 1) := by decide +kernel
theorem cbd_2 : decode jdk_65_method_133_code 2 = .ok (.invokestatic 343, 3) := by decide +kernel
theorem cbd_5 : decode jdk_65_method_133_code 5 = .ok (.iload_n 2, 1) := by decide +kernel
theorem cbd_6 : decode jdk_65_method_133_code 6 = .ok (.iload_n 1, 1) := by decide +kernel
theorem cbd_7 : decode jdk_65_method_133_code 7 = .ok (.isub, 1) := by decide +kernel
theorem cbd_8 : decode jdk_65_method_133_code 8 = .ok (.istore_n 3, 1) := by decide +kernel
theorem cbd_9 : decode jdk_65_method_133_code 9 = .ok (.iload_n 3, 1) := by decide +kernel
theorem cbd_10 : decode jdk_65_method_133_code 10 = .ok (.newarray .byte, 2) := by decide +kernel
theorem cbd_12 : decode jdk_65_method_133_code 12 = .ok (.astore 4, 2) := by decide +kernel
theorem cbd_14 : decode jdk_65_method_133_code 14 = .ok (.aload_n 0, 1) := by decide +kernel
theorem cbd_15 : decode jdk_65_method_133_code 15 = .ok (.iload_n 1, 1) := by decide +kernel
theorem cbd_16 : decode jdk_65_method_133_code 16 = .ok (.aload 4, 2) := by decide +kernel
theorem cbd_18 : decode jdk_65_method_133_code 18 = .ok (.iconst 0, 1) := by decide +kernel
theorem cbd_19 : decode jdk_65_method_133_code 19 = .ok (.aload_n 0, 1) := by decide +kernel
theorem cbd_20 : decode jdk_65_method_133_code 20 = .ok (.arraylength, 1) := by decide +kernel
theorem cbd_21 : decode jdk_65_method_133_code 21 = .ok (.iload_n 1, 1) := by decide +kernel
theorem cbd_22 : decode jdk_65_method_133_code 22 = .ok (.isub, 1) := by decide +kernel
theorem cbd_23 : decode jdk_65_method_133_code 23 = .ok (.iload_n 3, 1) := by decide +kernel
theorem cbd_24 : decode jdk_65_method_133_code 24 = .ok (.invokestatic 304, 3) := by decide +kernel
theorem cbd_27 : decode jdk_65_method_133_code 27 = .ok (.invokestatic 150, 3) := by decide +kernel
theorem cbd_30 : decode jdk_65_method_133_code 30 = .ok (.aload 4, 2) := by decide +kernel
theorem cbd_32 : decode jdk_65_method_133_code 32 = .ok (.areturn, 1) := by decide +kernel
set_option maxRecDepth 65536 in
set_option maxHeartbeats 40000000 in
theorem con_cb (l : Launch) {Z : State} {a0 : Array Value} {EL : List (String × Nat)} {h0 : Heap} (hw : ∀ d ∈ tables_1, d.before a0 Z = true) {t : Addr} {bs : List Int32} {b n : Nat} (A : Arc .byte Z h0 t bs) (h1 : b ≤ n) (h2 : n ≤ bs.length) (h3 : n - b ≤ 35) (O : Ext Z.heap h0) : Con l Z a0 EL svN false (⟨"java/util/Arrays", "copyOfRangeByte", "([BII)[B"⟩ : MethodName) jdk_65_method_133_code 5 (some (.array .byte)) ({ frames := 1, cells := 1, slots := 35, locals := 48 } : Room) [] [] #[(.ref t), (.int (Int32.ofNat b)), (.int (Int32.ofNat n))] h0 (fun v h => ∃ x, v = some (.ref x) ∧ Arc .byte Z h x ((bs.drop b).take (n - b))) := by
  refine Con.enter (plainFor_of_name (by first | (simp [plainName, overriddenIn]; done) | decide +kernel)) O ?_
  intro p e s m below meth c T0 X0
  rw [show entryFrame m #[(.ref t), (.int (Int32.ofNat b)), (.int (Int32.ofNat n))] 5 = (mkF m 0 #[.val (.ref t), .val (.int (Int32.ofNat b)), .val (.int (Int32.ofNat n)), .unset, .unset] []) from by first | (simp [entryFrame, mkF, argsToLocals, Value.category]; done) | rfl]
  have ho := O.1
  have hla := A.lt
  have hl4 : bs.length ≤ 4000 := by obtain ⟨_, _, r⟩ := A; exact r
  refine Run.via (fun _ => XS.iloadN X0.at X0.ex rfl (X0.de cbd_0) rfl) ?_
  show Run _ _ _ _ _ _ _ _ _ _ _ _ T0 (mkF m 1 #[.val (.ref t), .val (.int (Int32.ofNat b)), .val (.int (Int32.ofNat n)), .unset, .unset] [(.int (Int32.ofNat b))])
  refine Run.via (fun _ => XS.iloadN X0.at X0.ex rfl (X0.de cbd_1) rfl) ?_
  show Run _ _ _ _ _ _ _ _ _ _ _ _ T0 (mkF m 2 #[.val (.ref t), .val (.int (Int32.ofNat b)), .val (.int (Int32.ofNat n)), .unset, .unset] [(.int (Int32.ofNat n)), (.int (Int32.ofNat b))])
  refine Run.callS X0 (y := (⟨"java/util/Arrays", "checkLength", "(II)V"⟩ : MethodName)) (W := 0) (con_cl l hw h1 (by omega) O) (wd hw 154 rfl) (wd hw 155 rfl) (wd hw 112 rfl) (wd hw 156 rfl) (by decide) pd__II_V rfl (argsL := [(.int (Int32.ofNat b)), (.int (Int32.ofNat n))]) (rest := []) rfl (Nat.le_of_ble_eq_true rfl) rfl cbd_2 (by decide) (by decide) (Nat.le_of_ble_eq_true rfl) (Nat.le_of_ble_eq_true rfl) (nofun) (nofun) ?_
  intro v101 T101 h101 L101 q101 X101 XF101 K101
  obtain ⟨rfl, rfl⟩ := q101
  show Run _ _ _ _ _ _ _ _ _ _ _ _ T101 (mkF m 5 #[.val (.ref t), .val (.int (Int32.ofNat b)), .val (.int (Int32.ofNat n)), .unset, .unset] [])
  refine Run.via (fun _ => XS.iloadN X101.at X101.ex rfl (X101.de cbd_5) rfl) ?_
  show Run _ _ _ _ _ _ _ _ _ _ _ _ T101 (mkF m 6 #[.val (.ref t), .val (.int (Int32.ofNat b)), .val (.int (Int32.ofNat n)), .unset, .unset] [(.int (Int32.ofNat n))])
  refine Run.via (fun _ => XS.iloadN X101.at X101.ex rfl (X101.de cbd_6) rfl) ?_
  show Run _ _ _ _ _ _ _ _ _ _ _ _ T101 (mkF m 7 #[.val (.ref t), .val (.int (Int32.ofNat b)), .val (.int (Int32.ofNat n)), .unset, .unset] [(.int (Int32.ofNat b)), (.int (Int32.ofNat n))])
  refine Run.via (fun _ => XS.isub X101.at X101.ex rfl (X101.de cbd_7) rfl) ?_
  show Run _ _ _ _ _ _ _ _ _ _ _ _ T101 (mkF m 8 #[.val (.ref t), .val (.int (Int32.ofNat b)), .val (.int (Int32.ofNat n)), .unset, .unset] [(.int ((Int32.ofNat n) - (Int32.ofNat b)))])
  rw [show ((Int32.ofNat n) - (Int32.ofNat b)) = (Int32.ofNat (n - b)) from i32sub h1 (by omega)]
  show Run _ _ _ _ _ _ _ _ _ _ _ _ T101 (mkF m 8 #[.val (.ref t), .val (.int (Int32.ofNat b)), .val (.int (Int32.ofNat n)), .unset, .unset] [(.int (Int32.ofNat (n - b)))])
  refine Run.via (fun _ => XS.istoreN X101.at X101.ex rfl (X101.de cbd_8) rfl (l' := #[.val (.ref t), .val (.int (Int32.ofNat b)), .val (.int (Int32.ofNat n)), .val (.int (Int32.ofNat (n - b))), .unset]) rfl) ?_
  show Run _ _ _ _ _ _ _ _ _ _ _ _ T101 (mkF m 9 #[.val (.ref t), .val (.int (Int32.ofNat b)), .val (.int (Int32.ofNat n)), .val (.int (Int32.ofNat (n - b))), .unset] [])
  refine Run.via (fun _ => XS.iloadN X101.at X101.ex rfl (X101.de cbd_9) rfl) ?_
  show Run _ _ _ _ _ _ _ _ _ _ _ _ T101 (mkF m 10 #[.val (.ref t), .val (.int (Int32.ofNat b)), .val (.int (Int32.ofNat n)), .val (.int (Int32.ofNat (n - b))), .unset] [(.int (Int32.ofNat (n - b)))])
  refine Run.newarr X101 (aty := .byte) (n := (n - b)) (cap := 35) (wd hw 15 rfl) rfl cbd_10 rfl (by omega) (by decide) (Nat.le_of_ble_eq_true rfl) (Nat.le_of_ble_eq_true rfl) ?_
  intro T102 h102 x102 g102 X102 K102 z102 A102
  show Run _ _ _ _ _ _ _ _ _ _ _ _ T102 (mkF m 12 #[.val (.ref t), .val (.int (Int32.ofNat b)), .val (.int (Int32.ofNat n)), .val (.int (Int32.ofNat (n - b))), .unset] [(.ref x102)])
  refine Run.via (fun _ => XS.astore X102.at X102.ex rfl (X102.de cbd_12) rfl rfl (l' := #[.val (.ref t), .val (.int (Int32.ofNat b)), .val (.int (Int32.ofNat n)), .val (.int (Int32.ofNat (n - b))), .val (.ref x102)]) rfl) ?_
  show Run _ _ _ _ _ _ _ _ _ _ _ _ T102 (mkF m 14 #[.val (.ref t), .val (.int (Int32.ofNat b)), .val (.int (Int32.ofNat n)), .val (.int (Int32.ofNat (n - b))), .val (.ref x102)] [])
  refine Run.via (fun _ => XS.aloadN X102.at X102.ex rfl (X102.de cbd_14) rfl rfl) ?_
  show Run _ _ _ _ _ _ _ _ _ _ _ _ T102 (mkF m 15 #[.val (.ref t), .val (.int (Int32.ofNat b)), .val (.int (Int32.ofNat n)), .val (.int (Int32.ofNat (n - b))), .val (.ref x102)] [(.ref t)])
  refine Run.via (fun _ => XS.iloadN X102.at X102.ex rfl (X102.de cbd_15) rfl) ?_
  show Run _ _ _ _ _ _ _ _ _ _ _ _ T102 (mkF m 16 #[.val (.ref t), .val (.int (Int32.ofNat b)), .val (.int (Int32.ofNat n)), .val (.int (Int32.ofNat (n - b))), .val (.ref x102)] [(.int (Int32.ofNat b)), (.ref t)])
  refine Run.via (fun _ => XS.aload X102.at X102.ex rfl (X102.de cbd_16) rfl rfl) ?_
  show Run _ _ _ _ _ _ _ _ _ _ _ _ T102 (mkF m 18 #[.val (.ref t), .val (.int (Int32.ofNat b)), .val (.int (Int32.ofNat n)), .val (.int (Int32.ofNat (n - b))), .val (.ref x102)] [(.ref x102), (.int (Int32.ofNat b)), (.ref t)])
  refine Run.via (fun _ => XS.iconst X102.at X102.ex rfl (X102.de cbd_18)) ?_
  show Run _ _ _ _ _ _ _ _ _ _ _ _ T102 (mkF m 19 #[.val (.ref t), .val (.int (Int32.ofNat b)), .val (.int (Int32.ofNat n)), .val (.int (Int32.ofNat (n - b))), .val (.ref x102)] [(.int (0 : Int32)), (.ref x102), (.int (Int32.ofNat b)), (.ref t)])
  refine Run.via (fun _ => XS.aloadN X102.at X102.ex rfl (X102.de cbd_19) rfl rfl) ?_
  show Run _ _ _ _ _ _ _ _ _ _ _ _ T102 (mkF m 20 #[.val (.ref t), .val (.int (Int32.ofNat b)), .val (.int (Int32.ofNat n)), .val (.int (Int32.ofNat (n - b))), .val (.ref x102)] [(.ref t), (.int (0 : Int32)), (.ref x102), (.int (Int32.ofNat b)), (.ref t)])
  refine Run.alen X102 (A.keep K102 nin0) cbd_20 ?_
  show Run _ _ _ _ _ _ _ _ _ _ _ _ T102 (mkF m 21 #[.val (.ref t), .val (.int (Int32.ofNat b)), .val (.int (Int32.ofNat n)), .val (.int (Int32.ofNat (n - b))), .val (.ref x102)] [(.int (Int32.ofNat bs.length)), (.int (0 : Int32)), (.ref x102), (.int (Int32.ofNat b)), (.ref t)])
  refine Run.via (fun _ => XS.iloadN X102.at X102.ex rfl (X102.de cbd_21) rfl) ?_
  show Run _ _ _ _ _ _ _ _ _ _ _ _ T102 (mkF m 22 #[.val (.ref t), .val (.int (Int32.ofNat b)), .val (.int (Int32.ofNat n)), .val (.int (Int32.ofNat (n - b))), .val (.ref x102)] [(.int (Int32.ofNat b)), (.int (Int32.ofNat bs.length)), (.int (0 : Int32)), (.ref x102), (.int (Int32.ofNat b)), (.ref t)])
  refine Run.via (fun _ => XS.isub X102.at X102.ex rfl (X102.de cbd_22) rfl) ?_
  show Run _ _ _ _ _ _ _ _ _ _ _ _ T102 (mkF m 23 #[.val (.ref t), .val (.int (Int32.ofNat b)), .val (.int (Int32.ofNat n)), .val (.int (Int32.ofNat (n - b))), .val (.ref x102)] [(.int ((Int32.ofNat bs.length) - (Int32.ofNat b))), (.int (0 : Int32)), (.ref x102), (.int (Int32.ofNat b)), (.ref t)])
  rw [show ((Int32.ofNat bs.length) - (Int32.ofNat b)) = (Int32.ofNat (bs.length - b)) from i32sub (by omega) (by omega)]
  show Run _ _ _ _ _ _ _ _ _ _ _ _ T102 (mkF m 23 #[.val (.ref t), .val (.int (Int32.ofNat b)), .val (.int (Int32.ofNat n)), .val (.int (Int32.ofNat (n - b))), .val (.ref x102)] [(.int (Int32.ofNat (bs.length - b))), (.int (0 : Int32)), (.ref x102), (.int (Int32.ofNat b)), (.ref t)])
  refine Run.via (fun _ => XS.iloadN X102.at X102.ex rfl (X102.de cbd_23) rfl) ?_
  show Run _ _ _ _ _ _ _ _ _ _ _ _ T102 (mkF m 24 #[.val (.ref t), .val (.int (Int32.ofNat b)), .val (.int (Int32.ofNat n)), .val (.int (Int32.ofNat (n - b))), .val (.ref x102)] [(.int (Int32.ofNat (n - b))), (.int (Int32.ofNat (bs.length - b))), (.int (0 : Int32)), (.ref x102), (.int (Int32.ofNat b)), (.ref t)])
  refine Run.callS X102 (y := (⟨"java/lang/Math", "min", "(II)I"⟩ : MethodName)) (W := 4) (con_mn l hw (by omega) (by omega) X102.old) (wd hw 114 rfl) (wd hw 115 rfl) (wd hw 106 rfl) (wd hw 116 rfl) (by decide) pd__II_I rfl (argsL := [(.int (Int32.ofNat (bs.length - b))), (.int (Int32.ofNat (n - b)))]) (rest := [(.int (0 : Int32)), (.ref x102), (.int (Int32.ofNat b)), (.ref t)]) rfl (Nat.le_of_ble_eq_true rfl) rfl cbd_24 (by decide) (by decide) (Nat.le_of_ble_eq_true rfl) (Nat.le_of_ble_eq_true rfl) (nofun) (nofun) ?_
  intro v103 T103 h103 L103 q103 X103 XF103 K103
  obtain ⟨rfl, rfl⟩ := q103
  show Run _ _ _ _ _ _ _ _ _ _ _ _ T103 (mkF m 27 #[.val (.ref t), .val (.int (Int32.ofNat b)), .val (.int (Int32.ofNat n)), .val (.int (Int32.ofNat (n - b))), .val (.ref x102)] [(.int (Int32.ofNat (min (bs.length - b) (n - b)))), (.int (0 : Int32)), (.ref x102), (.int (Int32.ofNat b)), (.ref t)])
  rw [show (Int32.ofNat (min (bs.length - b) (n - b))) = (Int32.ofNat (n - b)) from by rw [Nat.min_eq_right (by omega)]]
  show Run _ _ _ _ _ _ _ _ _ _ _ _ T103 (mkF m 27 #[.val (.ref t), .val (.int (Int32.ofNat b)), .val (.int (Int32.ofNat n)), .val (.int (Int32.ofNat (n - b))), .val (.ref x102)] [(.int (Int32.ofNat (n - b))), (.int (0 : Int32)), (.ref x102), (.int (Int32.ofNat b)), (.ref t)])
  refine Run.acopy X103 (sp := b) (dp := 0) (nn := n - b) (W := 0) (A.keep K102 nin0) A102 (by omega) (by simp) (wd hw 117 rfl) (wd hw 93 rfl) (wd hw 91 rfl) (wd hw 92 rfl) (Or.inr (by omega)) (by omega) (by simp) rfl cbd_27 (Nat.le_of_ble_eq_true rfl) (by decide) (by decide) ?_
  intro T104 h104 L104 X104 K104 A104
  show Run _ _ _ _ _ _ _ _ _ _ _ _ T104 (mkF m 30 #[.val (.ref t), .val (.int (Int32.ofNat b)), .val (.int (Int32.ofNat n)), .val (.int (Int32.ofNat (n - b))), .val (.ref x102)] [])
  refine Run.via (fun _ => XS.aload X104.at X104.ex rfl (X104.de cbd_30) rfl rfl) ?_
  show Run _ _ _ _ _ _ _ _ _ _ _ _ T104 (mkF m 32 #[.val (.ref t), .val (.int (Int32.ofNat b)), .val (.int (Int32.ofNat n)), .val (.int (Int32.ofNat (n - b))), .val (.ref x102)] [(.ref x102)])
  exact Run.retA X104 (t := (.array .byte)) rfl rfl rfl cbd_32 (Nat.le_of_ble_eq_true rfl) (Nat.le_of_ble_eq_true rfl) (⟨x102, rfl, by have := A104; simpa using this⟩) (fun _ z => z.elim)
-- part con_cr
theorem crd_0 : decode jdk_65_method_132_code 0 = .ok (.iload_n 1, 1) := by decide +kernel
theorem crd_1 : decode jdk_65_method_132_code 1 = .ok (.ifCond .ne 9, 3) := by decide +kernel
theorem crd_4 : decode jdk_65_method_132_code 4 = .ok (.iload_n 2, 1) := by decide +kernel
theorem crd_5 : decode jdk_65_method_132_code 5 = .ok (.aload_n 0, 1) := by decide +kernel
theorem crd_6 : decode jdk_65_method_132_code 6 = .ok (.arraylength, 1) := by decide +kernel
theorem crd_7 : decode jdk_65_method_132_code 7 = .ok (.if_icmp .eq 10, 3) := by decide +kernel
theorem crd_10 : decode jdk_65_method_132_code 10 = .ok (.aload_n 0, 1) := by decide +kernel
theorem crd_11 : decode jdk_65_method_132_code 11 = .ok (.iload_n 1, 1) := by decide +kernel
theorem crd_12 : decode jdk_65_method_132_code 12 = .ok (.iload_n 2, 1) := by decide +kernel
theorem crd_13 : decode jdk_65_method_132_code 13 = .ok (.invokestatic 339, 3) := by decide +kernel
theorem crd_16 : decode jdk_65_method_132_code 16 = .ok (.areturn, 1) := by decide +kernel
set_option maxRecDepth 65536 in
set_option maxHeartbeats 40000000 in
theorem con_cr (l : Launch) {Z : State} {a0 : Array Value} {EL : List (String × Nat)} {h0 : Heap} (hw : ∀ d ∈ tables_1, d.before a0 Z = true) {t : Addr} {bs : List Int32} {b n : Nat} (A : Arc .byte Z h0 t bs) (h1 : b ≤ n) (h2 : n ≤ bs.length) (h3 : n - b ≤ 35) (h4 : ¬ (b = 0 ∧ n = bs.length)) (O : Ext Z.heap h0) : Con l Z a0 EL svN false (⟨"java/util/Arrays", "copyOfRange", "([BII)[B"⟩ : MethodName) jdk_65_method_132_code 3 (some (.array .byte)) ({ frames := 2, cells := 1, slots := 35, locals := 66 } : Room) [] [] #[(.ref t), (.int (Int32.ofNat b)), (.int (Int32.ofNat n))] h0 (fun v h => ∃ x, v = some (.ref x) ∧ Arc .byte Z h x ((bs.drop b).take (n - b))) := by
  refine Con.enter (plainFor_of_name (by first | (simp [plainName, overriddenIn]; done) | decide +kernel)) O ?_
  intro p e s m below meth c T0 X0
  rw [show entryFrame m #[(.ref t), (.int (Int32.ofNat b)), (.int (Int32.ofNat n))] 3 = (mkF m 0 #[.val (.ref t), .val (.int (Int32.ofNat b)), .val (.int (Int32.ofNat n))] []) from by first | (simp [entryFrame, mkF, argsToLocals, Value.category]; done) | rfl]
  have hl4 : bs.length ≤ 4000 := by obtain ⟨_, _, r⟩ := A; exact r
  refine Run.via (fun _ => XS.iloadN X0.at X0.ex rfl (X0.de crd_0) rfl) ?_
  show Run _ _ _ _ _ _ _ _ _ _ _ _ T0 (mkF m 1 #[.val (.ref t), .val (.int (Int32.ofNat b)), .val (.int (Int32.ofNat n))] [(.int (Int32.ofNat b))])
  by_cases q : (Int32.ofNat b) = (0 : Int32)
  ·
    refine Run.via (fun _ => XS.ifNo X0.at X0.ex rfl (X0.de crd_1) rfl ((if0 _ _).trans (teq q).2)) ?_
    show Run _ _ _ _ _ _ _ _ _ _ _ _ T0 (mkF m 4 #[.val (.ref t), .val (.int (Int32.ofNat b)), .val (.int (Int32.ofNat n))] [])
    refine Run.via (fun _ => XS.iloadN X0.at X0.ex rfl (X0.de crd_4) rfl) ?_
    show Run _ _ _ _ _ _ _ _ _ _ _ _ T0 (mkF m 5 #[.val (.ref t), .val (.int (Int32.ofNat b)), .val (.int (Int32.ofNat n))] [(.int (Int32.ofNat n))])
    refine Run.via (fun _ => XS.aloadN X0.at X0.ex rfl (X0.de crd_5) rfl rfl) ?_
    show Run _ _ _ _ _ _ _ _ _ _ _ _ T0 (mkF m 6 #[.val (.ref t), .val (.int (Int32.ofNat b)), .val (.int (Int32.ofNat n))] [(.ref t), (.int (Int32.ofNat n))])
    refine Run.alen X0 A crd_6 ?_
    show Run _ _ _ _ _ _ _ _ _ _ _ _ T0 (mkF m 7 #[.val (.ref t), .val (.int (Int32.ofNat b)), .val (.int (Int32.ofNat n))] [(.int (Int32.ofNat bs.length)), (.int (Int32.ofNat n))])
    refine Run.via (fun _ => XS.icmpNo X0.at X0.ex rfl (X0.de crd_7) rfl (feq (fun z => h4 ⟨(i32eq (b := 0) (by omega) (by omega)).mp q, (i32eq (by omega) (by omega)).mp z⟩)).1) ?_
    show Run _ _ _ _ _ _ _ _ _ _ _ _ T0 (mkF m 10 #[.val (.ref t), .val (.int (Int32.ofNat b)), .val (.int (Int32.ofNat n))] [])
    refine Run.via (fun _ => XS.aloadN X0.at X0.ex rfl (X0.de crd_10) rfl rfl) ?_
    show Run _ _ _ _ _ _ _ _ _ _ _ _ T0 (mkF m 11 #[.val (.ref t), .val (.int (Int32.ofNat b)), .val (.int (Int32.ofNat n))] [(.ref t)])
    refine Run.via (fun _ => XS.iloadN X0.at X0.ex rfl (X0.de crd_11) rfl) ?_
    show Run _ _ _ _ _ _ _ _ _ _ _ _ T0 (mkF m 12 #[.val (.ref t), .val (.int (Int32.ofNat b)), .val (.int (Int32.ofNat n))] [(.int (Int32.ofNat b)), (.ref t)])
    refine Run.via (fun _ => XS.iloadN X0.at X0.ex rfl (X0.de crd_12) rfl) ?_
    show Run _ _ _ _ _ _ _ _ _ _ _ _ T0 (mkF m 13 #[.val (.ref t), .val (.int (Int32.ofNat b)), .val (.int (Int32.ofNat n))] [(.int (Int32.ofNat n)), (.int (Int32.ofNat b)), (.ref t)])
    refine Run.callS X0 (y := (⟨"java/util/Arrays", "copyOfRangeByte", "([BII)[B"⟩ : MethodName)) (W := 0) (con_cb l hw A h1 h2 h3 O) (wd hw 151 rfl) (wd hw 152 rfl) (wd hw 112 rfl) (wd hw 153 rfl) (by decide) pd___BII__B rfl (argsL := [(.ref t), (.int (Int32.ofNat b)), (.int (Int32.ofNat n))]) (rest := []) rfl (Nat.le_of_ble_eq_true rfl) rfl crd_13 (by decide) (by decide) (Nat.le_of_ble_eq_true rfl) (Nat.le_of_ble_eq_true rfl) (nofun) (nofun) ?_
    intro v101 T101 h101 L101 q101 X101 XF101 K101
    obtain ⟨x, rfl, A1⟩ := q101
    show Run _ _ _ _ _ _ _ _ _ _ _ _ T101 (mkF m 16 #[.val (.ref t), .val (.int (Int32.ofNat b)), .val (.int (Int32.ofNat n))] [(.ref x)])
    exact Run.retA X101 (t := (.array .byte)) rfl rfl rfl crd_16 (Nat.le_of_ble_eq_true rfl) (Nat.le_of_ble_eq_true rfl) (⟨x, rfl, A1⟩) (fun _ z => z.elim)
  ·
    refine Run.via (fun _ => XS.ifYes X0.at X0.ex rfl (pc0 := 1) (pc' := 10) rfl (X0.de crd_1) rfl ((if0 _ _).trans (feq q).2) (by decide) (by decide)) ?_
    show Run _ _ _ _ _ _ _ _ _ _ _ _ T0 (mkF m 10 #[.val (.ref t), .val (.int (Int32.ofNat b)), .val (.int (Int32.ofNat n))] [])
    refine Run.via (fun _ => XS.aloadN X0.at X0.ex rfl (X0.de crd_10) rfl rfl) ?_
    show Run _ _ _ _ _ _ _ _ _ _ _ _ T0 (mkF m 11 #[.val (.ref t), .val (.int (Int32.ofNat b)), .val (.int (Int32.ofNat n))] [(.ref t)])
    refine Run.via (fun _ => XS.iloadN X0.at X0.ex rfl (X0.de crd_11) rfl) ?_
    show Run _ _ _ _ _ _ _ _ _ _ _ _ T0 (mkF m 12 #[.val (.ref t), .val (.int (Int32.ofNat b)), .val (.int (Int32.ofNat n))] [(.int (Int32.ofNat b)), (.ref t)])
    refine Run.via (fun _ => XS.iloadN X0.at X0.ex rfl (X0.de crd_12) rfl) ?_
    show Run _ _ _ _ _ _ _ _ _ _ _ _ T0 (mkF m 13 #[.val (.ref t), .val (.int (Int32.ofNat b)), .val (.int (Int32.ofNat n))] [(.int (Int32.ofNat n)), (.int (Int32.ofNat b)), (.ref t)])
    refine Run.callS X0 (y := (⟨"java/util/Arrays", "copyOfRangeByte", "([BII)[B"⟩ : MethodName)) (W := 0) (con_cb l hw A h1 h2 h3 O) (wd hw 151 rfl) (wd hw 152 rfl) (wd hw 112 rfl) (wd hw 153 rfl) (by decide) pd___BII__B rfl (argsL := [(.ref t), (.int (Int32.ofNat b)), (.int (Int32.ofNat n))]) (rest := []) rfl (Nat.le_of_ble_eq_true rfl) rfl crd_13 (by decide) (by decide) (Nat.le_of_ble_eq_true rfl) (Nat.le_of_ble_eq_true rfl) (nofun) (nofun) ?_
    intro v102 T102 h102 L102 q102 X102 XF102 K102
    obtain ⟨x, rfl, A1⟩ := q102
    show Run _ _ _ _ _ _ _ _ _ _ _ _ T102 (mkF m 16 #[.val (.ref t), .val (.int (Int32.ofNat b)), .val (.int (Int32.ofNat n))] [(.ref x)])
    exact Run.retA X102 (t := (.array .byte)) rfl rfl rfl crd_16 (Nat.le_of_ble_eq_true rfl) (Nat.le_of_ble_eq_true rfl) (⟨x, rfl, A1⟩) (fun _ z => z.elim)
-- part con_gv
theorem gvd_0 : decode jdk_68_method_64_code 0 = .ok (.aload_n 0, 1) := by decide +kernel
theorem gvd_1 : decode jdk_68_method_64_code 1 = .ok (.getfield 15, 3) := by decide +kernel
theorem gvd_4 : decode jdk_68_method_64_code 4 = .ok (.areturn, 1) := by decide +kernel
set_option maxRecDepth 65536 in
set_option maxHeartbeats 40000000 in
theorem con_gv (l : Launch) {Z : State} {a0 : Array Value} {EL : List (String × Nat)} {h0 : Heap} (hw : ∀ d ∈ tables_1, d.before a0 Z = true) {b t : Addr} (F : Fld Z h0 b "java/lang/AbstractStringBuilder" "value" "[B" (.ref t)) (O : Ext Z.heap h0) : Con l Z a0 EL svN false (⟨"java/lang/AbstractStringBuilder", "getValue", "()[B"⟩ : MethodName) jdk_68_method_64_code 1 (some (.array .byte)) ({ frames := 0, cells := 0, slots := 0, locals := 0 } : Room) [] [] #[(.ref b)] h0 (fun v h => v = some (.ref t) ∧ h0 = h) := by
  refine Con.enter (plainFor_of_name (by first | (simp [plainName, overriddenIn]; done) | decide +kernel)) O ?_
  intro p e s m below meth c T0 X0
  rw [show entryFrame m #[(.ref b)] 1 = (mkF m 0 #[.val (.ref b)] []) from by first | (simp [entryFrame, mkF, argsToLocals, Value.category]; done) | rfl]
  refine Run.via (fun _ => XS.aloadN X0.at X0.ex rfl (X0.de gvd_0) rfl rfl) ?_
  show Run _ _ _ _ _ _ _ _ _ _ _ _ T0 (mkF m 1 #[.val (.ref b)] [(.ref b)])
  refine Run.getf X0 (wd hw 42 rfl) Via.refl F gvd_1 ?_
  intro T101 X101
  show Run _ _ _ _ _ _ _ _ _ _ _ _ T101 (mkF m 4 #[.val (.ref b)] [(.ref t)])
  exact Run.retA X101 (t := (.array .byte)) rfl rfl rfl gvd_4 (Nat.le_of_ble_eq_true rfl) (Nat.le_of_ble_eq_true rfl) (⟨rfl, rfl⟩) (fun _ z => z.elim)
-- part con_l1
theorem l1d_0 : decode jdk_68_method_6_code 0 = .ok (.aload_n 0, 1) := by decide +kernel
theorem l1d_1 : decode jdk_68_method_6_code 1 = .ok (.getfield 79, 3) := by decide +kernel
theorem l1d_4 : decode jdk_68_method_6_code 4 = .ok (.ireturn, 1) := by decide +kernel
set_option maxRecDepth 65536 in
set_option maxHeartbeats 40000000 in
theorem con_l1 (l : Launch) {Z : State} {a0 : Array Value} {EL : List (String × Nat)} {h0 : Heap} (hw : ∀ d ∈ tables_1, d.before a0 Z = true) {b : Addr} {x : Int32} (F : Fld Z h0 b "java/lang/AbstractStringBuilder" "count" "I" (.int x)) (O : Ext Z.heap h0) : Con l Z a0 EL svN false (⟨"java/lang/AbstractStringBuilder", "length", "()I"⟩ : MethodName) jdk_68_method_6_code 1 (some .int) ({ frames := 0, cells := 0, slots := 0, locals := 0 } : Room) [] [] #[(.ref b)] h0 (fun v h => v = some (.int x) ∧ h0 = h) := by
  refine Con.enter (plainFor_of_name (by first | (simp [plainName, overriddenIn]; done) | decide +kernel)) O ?_
  intro p e s m below meth c T0 X0
  rw [show entryFrame m #[(.ref b)] 1 = (mkF m 0 #[.val (.ref b)] []) from by first | (simp [entryFrame, mkF, argsToLocals, Value.category]; done) | rfl]
  refine Run.via (fun _ => XS.aloadN X0.at X0.ex rfl (X0.de l1d_0) rfl rfl) ?_
  show Run _ _ _ _ _ _ _ _ _ _ _ _ T0 (mkF m 1 #[.val (.ref b)] [(.ref b)])
  refine Run.getf X0 (wd hw 67 rfl) Via.refl F l1d_1 ?_
  intro T101 X101
  show Run _ _ _ _ _ _ _ _ _ _ _ _ T101 (mkF m 4 #[.val (.ref b)] [(.int x)])
  exact Run.retI X101 rfl l1d_4 (Nat.le_of_ble_eq_true rfl) (Nat.le_of_ble_eq_true rfl) (⟨rfl, rfl⟩)
-- part con_l2
theorem l2d_0 : decode jdk_67_method_93_code 0 = .ok (.aload_n 0, 1) := by decide +kernel
theorem l2d_1 : decode jdk_67_method_93_code 1 = .ok (.invokespecial 343, 3) := by decide +kernel
theorem l2d_4 : decode jdk_67_method_93_code 4 = .ok (.ireturn, 1) := by decide +kernel
set_option maxRecDepth 65536 in
set_option maxHeartbeats 40000000 in
theorem con_l2 (l : Launch) {Z : State} {a0 : Array Value} {EL : List (String × Nat)} {h0 : Heap} (hw : ∀ d ∈ tables_1, d.before a0 Z = true) {b : Addr} {x : Int32} (E : Exa Z h0 b "java/lang/StringBuilder") (F : Fld Z h0 b "java/lang/AbstractStringBuilder" "count" "I" (.int x)) (O : Ext Z.heap h0) : Con l Z a0 EL svN false (⟨"java/lang/StringBuilder", "length", "()I"⟩ : MethodName) jdk_67_method_93_code 1 (some .int) ({ frames := 1, cells := 0, slots := 0, locals := 12 } : Room) [] [] #[(.ref b)] h0 (fun v h => v = some (.int x) ∧ h0 = h) := by
  refine Con.enter (plainFor_of_name (by first | (simp [plainName, overriddenIn]; done) | decide +kernel)) O ?_
  intro p e s m below meth c T0 X0
  rw [show entryFrame m #[(.ref b)] 1 = (mkF m 0 #[.val (.ref b)] []) from by first | (simp [entryFrame, mkF, argsToLocals, Value.category]; done) | rfl]
  refine Run.via (fun _ => XS.aloadN X0.at X0.ex rfl (X0.de l2d_0) rfl rfl) ?_
  show Run _ _ _ _ _ _ _ _ _ _ _ _ T0 (mkF m 1 #[.val (.ref b)] [(.ref b)])
  refine Run.callU X0 (y := (⟨"java/lang/AbstractStringBuilder", "length", "()I"⟩ : MethodName)) (W := 0) (con_l1 l hw F O) E (wd hw 141 rfl) (same_of_declares (wd hw 136 rfl) (by decide) (wd hw 72 rfl) rfl) (wd hw 137 rfl) (wd hw 53 rfl) (by decide) (wd hw 38 rfl) (wd hw 142 rfl) pd___I rfl (argsL := []) (rest := []) rfl (Nat.le_of_ble_eq_true rfl) rfl l2d_1 (by decide) (by decide) (Nat.le_of_ble_eq_true rfl) (Nat.le_of_ble_eq_true rfl) (nofun) (nofun) ?_
  intro v101 T101 h101 L101 q101 X101 XF101 K101
  obtain ⟨rfl, rfl⟩ := q101
  show Run _ _ _ _ _ _ _ _ _ _ _ _ T101 (mkF m 4 #[.val (.ref b)] [(.int x)])
  exact Run.retI X101 rfl l2d_4 (Nat.le_of_ble_eq_true rfl) (Nat.le_of_ble_eq_true rfl) (⟨rfl, rfl⟩)
-- part con_al
theorem ald_0 : decode jdk_68_method_68_code 0 = .ok (.getstatic 18, 3) := by decide +kernel
theorem ald_3 : decode jdk_68_method_68_code 3 = .ok (.ifCond .eq 14, 3) := by decide +kernel
theorem ald_6 : decode jdk_68_method_68_code 6 = .ok (.aload_n 0, 1) := by decide +kernel
theorem ald_7 : decode jdk_68_method_68_code 7 = .ok (.getfield 22, 3) := by decide +kernel
theorem ald_10 : decode jdk_68_method_68_code 10 = .ok (.ifCond .ne 7, 3) := by decide +kernel
theorem ald_13 : decode jdk_68_method_68_code 13 = .ok (.iconst 1, 1) := by decide +kernel
theorem ald_14 : decode jdk_68_method_68_code 14 = .ok (.goto 4, 3) := by decide +kernel
theorem ald_18 : decode jdk_68_method_68_code 18 = .ok (.ireturn, 1) := by decide +kernel
set_option maxRecDepth 65536 in
set_option maxHeartbeats 40000000 in
theorem con_al (l : Launch) {Z : State} {a0 : Array Value} {EL : List (String × Nat)} {h0 : Heap} (hw : ∀ d ∈ tables_1, d.before a0 Z = true) (hS : Sets Z) {b : Addr} (F : Fld Z h0 b "java/lang/AbstractStringBuilder" "coder" "B" (.int 0)) (O : Ext Z.heap h0) : Con l Z a0 EL svN false (⟨"java/lang/AbstractStringBuilder", "isLatin1", "()Z"⟩ : MethodName) jdk_68_method_68_code 1 (some .boolean) ({ frames := 0, cells := 0, slots := 0, locals := 0 } : Room) [] [] #[(.ref b)] h0 (fun v h => v = some (.int 1) ∧ h0 = h) := by
  obtain ⟨zz, fm, S1, S2, S3, S4⟩ := hS
  refine Con.enter (plainFor_of_name (by first | (simp [plainName, overriddenIn]; done) | decide +kernel)) O ?_
  intro p e s m below meth c T0 X0
  rw [show entryFrame m #[(.ref b)] 1 = (mkF m 0 #[.val (.ref b)] []) from by first | (simp [entryFrame, mkF, argsToLocals, Value.category]; done) | rfl]
  refine Run.gets X0 (wd hw 41 rfl) Via.refl S1 ald_0 ?_
  intro T101 X101
  show Run _ _ _ _ _ _ _ _ _ _ _ _ T101 (mkF m 3 #[.val (.ref b)] [(.int zz)])
  refine Run.via (fun _ => XS.ifNo X101.at X101.ex rfl (X101.de ald_3) rfl ((if0 _ _).trans (feq S2).1)) ?_
  show Run _ _ _ _ _ _ _ _ _ _ _ _ T101 (mkF m 6 #[.val (.ref b)] [])
  refine Run.via (fun _ => XS.aloadN X101.at X101.ex rfl (X101.de ald_6) rfl rfl) ?_
  show Run _ _ _ _ _ _ _ _ _ _ _ _ T101 (mkF m 7 #[.val (.ref b)] [(.ref b)])
  refine Run.getf X101 (wd hw 44 rfl) Via.refl F ald_7 ?_
  intro T102 X102
  show Run _ _ _ _ _ _ _ _ _ _ _ _ T102 (mkF m 10 #[.val (.ref b)] [(.int (0 : Int32))])
  refine Run.via (fun _ => XS.ifNo X102.at X102.ex rfl (X102.de ald_10) rfl ((if0 _ _).trans (teq (by decide : ((0 : Int32) = (0 : Int32)))).2)) ?_
  show Run _ _ _ _ _ _ _ _ _ _ _ _ T102 (mkF m 13 #[.val (.ref b)] [])
  refine Run.via (fun _ => XS.iconst X102.at X102.ex rfl (X102.de ald_13)) ?_
  show Run _ _ _ _ _ _ _ _ _ _ _ _ T102 (mkF m 14 #[.val (.ref b)] [(.int (1 : Int32))])
  refine Run.via (fun _ => XS.goto X102.at X102.ex rfl (pc0 := 14) (pc' := 18) rfl (X102.de ald_14) (by decide) (by decide)) ?_
  show Run _ _ _ _ _ _ _ _ _ _ _ _ T102 (mkF m 18 #[.val (.ref b)] [(.int (1 : Int32))])
  exact Run.retN X102 (t := .boolean) rfl (by simp) ald_18 (Nat.le_of_ble_eq_true rfl) (Nat.le_of_ble_eq_true rfl) (⟨rfl, rfl⟩)
-- part con_crw
theorem crwd_0 : decode jdk_65_method_132_code 0 = .ok (.iload_n 1, 1) := by decide +kernel
theorem crwd_1 : decode jdk_65_method_132_code 1 = .ok (.ifCond .ne 9, 3) := by decide +kernel
theorem crwd_4 : decode jdk_65_method_132_code 4 = .ok (.iload_n 2, 1) := by decide +kernel
theorem crwd_5 : decode jdk_65_method_132_code 5 = .ok (.aload_n 0, 1) := by decide +kernel
theorem crwd_6 : decode jdk_65_method_132_code 6 = .ok (.arraylength, 1) := by decide +kernel
theorem crwd_7 : decode jdk_65_method_132_code 7 = .ok (.if_icmp .eq 10, 3) := by decide +kernel
theorem crwd_17 : decode jdk_65_method_132_code 17 = .ok (.aload_n 0, 1) := by decide +kernel
theorem crwd_18 : decode jdk_65_method_132_code 18 = .ok (.invokevirtual 310, 3) := by decide +kernel
theorem crwd_21 : decode jdk_65_method_132_code 21 = .ok (.checkcast 311, 3) := by decide +kernel
theorem crwd_24 : decode jdk_65_method_132_code 24 = .ok (.areturn, 1) := by decide +kernel
set_option maxRecDepth 65536 in
set_option maxHeartbeats 40000000 in
theorem con_crw (l : Launch) {Z : State} {a0 : Array Value} {EL : List (String × Nat)} {h0 : Heap} (hw : ∀ d ∈ tables_1, d.before a0 Z = true) {t : Addr} {bs : List Int32} (A : Arc .byte Z h0 t bs) (E : Exa Z h0 t "[B") (hcap : bs.length ≤ 35) (O : Ext Z.heap h0) : Con l Z a0 EL svN false (⟨"java/util/Arrays", "copyOfRange", "([BII)[B"⟩ : MethodName) jdk_65_method_132_code 3 (some (.array .byte)) ({ frames := 1, cells := 1, slots := 35, locals := 16 } : Room) [] [] #[(.ref t), (.int (0 : Int32)), (.int (Int32.ofNat bs.length))] h0 (fun v h => ∃ x, v = some (.ref x) ∧ Arc .byte Z h x bs) := by
  have hb4 : bs.length ≤ 4000 := by obtain ⟨_, _, r⟩ := A; exact r
  refine Con.enter (plainFor_of_name (by first | (simp [plainName, overriddenIn]; done) | decide +kernel)) O ?_
  intro p e s m below meth c T0 X0
  rw [show entryFrame m #[(.ref t), (.int (0 : Int32)), (.int (Int32.ofNat bs.length))] 3 = (mkF m 0 #[.val (.ref t), .val (.int (0 : Int32)), .val (.int (Int32.ofNat bs.length))] []) from by first | (simp [entryFrame, mkF, argsToLocals, Value.category]; done) | rfl]
  refine Run.via (fun _ => XS.iloadN X0.at X0.ex rfl (X0.de crwd_0) rfl) ?_
  show Run _ _ _ _ _ _ _ _ _ _ _ _ T0 (mkF m 1 #[.val (.ref t), .val (.int (0 : Int32)), .val (.int (Int32.ofNat bs.length))] [(.int (0 : Int32))])
  refine Run.via (fun _ => XS.ifNo X0.at X0.ex rfl (X0.de crwd_1) rfl ((if0 _ _).trans (teq (by decide : ((0 : Int32) = (0 : Int32)))).2)) ?_
  show Run _ _ _ _ _ _ _ _ _ _ _ _ T0 (mkF m 4 #[.val (.ref t), .val (.int (0 : Int32)), .val (.int (Int32.ofNat bs.length))] [])
  refine Run.via (fun _ => XS.iloadN X0.at X0.ex rfl (X0.de crwd_4) rfl) ?_
  show Run _ _ _ _ _ _ _ _ _ _ _ _ T0 (mkF m 5 #[.val (.ref t), .val (.int (0 : Int32)), .val (.int (Int32.ofNat bs.length))] [(.int (Int32.ofNat bs.length))])
  refine Run.via (fun _ => XS.aloadN X0.at X0.ex rfl (X0.de crwd_5) rfl rfl) ?_
  show Run _ _ _ _ _ _ _ _ _ _ _ _ T0 (mkF m 6 #[.val (.ref t), .val (.int (0 : Int32)), .val (.int (Int32.ofNat bs.length))] [(.ref t), (.int (Int32.ofNat bs.length))])
  refine Run.alen X0 A crwd_6 ?_
  show Run _ _ _ _ _ _ _ _ _ _ _ _ T0 (mkF m 7 #[.val (.ref t), .val (.int (0 : Int32)), .val (.int (Int32.ofNat bs.length))] [(.int (Int32.ofNat bs.length)), (.int (Int32.ofNat bs.length))])
  refine Run.via (fun _ => XS.icmpYes X0.at X0.ex rfl (pc0 := 7) (pc' := 17) rfl (X0.de crwd_7) rfl (teq (rfl : (Int32.ofNat bs.length) = (Int32.ofNat bs.length))).1 (by decide) (by decide)) ?_
  show Run _ _ _ _ _ _ _ _ _ _ _ _ T0 (mkF m 17 #[.val (.ref t), .val (.int (0 : Int32)), .val (.int (Int32.ofNat bs.length))] [])
  refine Run.via (fun _ => XS.aloadN X0.at X0.ex rfl (X0.de crwd_17) rfl rfl) ?_
  show Run _ _ _ _ _ _ _ _ _ _ _ _ T0 (mkF m 18 #[.val (.ref t), .val (.int (0 : Int32)), .val (.int (Int32.ofNat bs.length))] [(.ref t)])
  refine Run.clone X0 (W := 0) (cap := 35) A E (wd hw 258 rfl) (wd hw 259 rfl) (wd hw 263 rfl) (wd hw 261 rfl) (wd hw 262 rfl) (wd hw 264 rfl) rfl crwd_18 (Nat.le_of_ble_eq_true rfl) (by decide) (by decide) hcap (Nat.le_of_ble_eq_true rfl) (Nat.le_of_ble_eq_true rfl) ?_
  intro T101 h101 x101 g101 X101 K101 z101 A101 E101
  show Run _ _ _ _ _ _ _ _ _ _ _ _ T101 (mkF m 21 #[.val (.ref t), .val (.int (0 : Int32)), .val (.int (Int32.ofNat bs.length))] [(.ref x101)])
  refine Run.castY X101 (wd hw 265 rfl) (Ins.self E101) crwd_21 ?_
  intro T102 X102
  show Run _ _ _ _ _ _ _ _ _ _ _ _ T102 (mkF m 24 #[.val (.ref t), .val (.int (0 : Int32)), .val (.int (Int32.ofNat bs.length))] [(.ref x101)])
  exact Run.retA X102 (t := (.array .byte)) rfl rfl rfl crwd_24 (Nat.le_of_ble_eq_true rfl) (Nat.le_of_ble_eq_true rfl) (⟨x101, rfl, A101⟩) (fun _ z => z.elim)
-- part con_iv
theorem ivd_0 : decode jdk_42_method_150_code 0 = .ok (.aload_n 0, 1) := by decide +kernel
theorem ivd_1 : decode jdk_42_method_150_code 1 = .ok (.invokespecial 1, 3) := by decide +kernel
theorem ivd_4 : decode jdk_42_method_150_code 4 = .ok (.aload_n 1, 1) := by decide +kernel
theorem ivd_5 : decode jdk_42_method_150_code 5 = .ok (.invokevirtual 552, 3) := by decide +kernel
theorem ivd_8 : decode jdk_42_method_150_code 8 = .ok (.astore_n 3, 1) := by decide +kernel
theorem ivd_9 : decode jdk_42_method_150_code 9 = .ok (.aload_n 1, 1) := by decide +kernel
theorem ivd_10 : decode jdk_42_method_150_code 10 = .ok (.invokevirtual 549, 3) := by decide +kernel
theorem ivd_13 : decode jdk_42_method_150_code 13 = .ok (.istore 4, 2) := by decide +kernel
theorem ivd_15 : decode jdk_42_method_150_code 15 = .ok (.aload_n 1, 1) := by decide +kernel
theorem ivd_16 : decode jdk_42_method_150_code 16 = .ok (.invokevirtual 1047, 3) := by decide +kernel
theorem ivd_19 : decode jdk_42_method_150_code 19 = .ok (.ifCond .eq 22, 3) := by decide +kernel
theorem ivd_22 : decode jdk_42_method_150_code 22 = .ok (.aload_n 0, 1) := by decide +kernel
theorem ivd_23 : decode jdk_42_method_150_code 23 = .ok (.iconst 0, 1) := by decide +kernel
theorem ivd_24 : decode jdk_42_method_150_code 24 = .ok (.putfield 15, 3) := by decide +kernel
theorem ivd_27 : decode jdk_42_method_150_code 27 = .ok (.aload_n 0, 1) := by decide +kernel
theorem ivd_28 : decode jdk_42_method_150_code 28 = .ok (.aload_n 3, 1) := by decide +kernel
theorem ivd_29 : decode jdk_42_method_150_code 29 = .ok (.iconst 0, 1) := by decide +kernel
theorem ivd_30 : decode jdk_42_method_150_code 30 = .ok (.iload 4, 2) := by decide +kernel
theorem ivd_32 : decode jdk_42_method_150_code 32 = .ok (.invokestatic 54, 3) := by decide +kernel
theorem ivd_35 : decode jdk_42_method_150_code 35 = .ok (.putfield 9, 3) := by decide +kernel
theorem ivd_38 : decode jdk_42_method_150_code 38 = .ok (.goto 59, 3) := by decide +kernel
theorem ivd_97 : decode jdk_42_method_150_code 97 = .ok (.return_, 1) := by decide +kernel
set_option maxRecDepth 65536 in
set_option maxHeartbeats 40000000 in
theorem con_iv (l : Launch) {Z : State} {a0 : Array Value} {EL : List (String × Nat)} {h0 : Heap} (hw : ∀ d ∈ tables_1, d.before a0 Z = true) (hS : Sets Z) {xa b t : Addr} {cs : List Int32} {n : Nat} (hl : Lat cs) (B : SB Z h0 b t cs n) (G : Raw Z h0 xa) (hz : Z.heap.size ≤ xa) (hcap : cs.length ≤ 35) (O : Ext Z.heap h0) : Con l Z a0 EL svN false (⟨"java/lang/String", "<init>", "(Ljava/lang/AbstractStringBuilder;Ljava/lang/Void;)V"⟩ : MethodName) jdk_42_method_150_code 5 none ({ frames := 3, cells := 1, slots := 35, locals := 84 } : Room) [xa] [xa] #[(.ref xa), (.ref b), .null] h0 (fun v h => v = none ∧ Str Z h xa cs) := by
  have EB := B.1
  have hb4 := B.cap
  refine Con.enter (plainFor_of_name (by first | (simp [plainName, overriddenIn]; done) | decide +kernel)) O ?_
  intro p e s m below meth c T0 X0
  rw [show entryFrame m #[(.ref xa), (.ref b), .null] 5 = (mkF m 0 #[.val (.ref xa), .val (.ref b), .val .null, .unset, .unset] []) from by first | (simp [entryFrame, mkF, argsToLocals, Value.category]; done) | rfl]
  refine Run.via (fun _ => XS.aloadN X0.at X0.ex rfl (X0.de ivd_0) rfl rfl) ?_
  show Run _ _ _ _ _ _ _ _ _ _ _ _ T0 (mkF m 1 #[.val (.ref xa), .val (.ref b), .val .null, .unset, .unset] [(.ref xa)])
  refine Run.initO X0 (wd hw 11 rfl) (wd hw 12 rfl) (wd hw 13 rfl) rfl ivd_1 (by decide) (Nat.le_of_ble_eq_true rfl) ?_
  intro T101 X101
  show Run _ _ _ _ _ _ _ _ _ _ _ _ T101 (mkF m 4 #[.val (.ref xa), .val (.ref b), .val .null, .unset, .unset] [])
  refine Run.via (fun _ => XS.aloadN X101.at X101.ex rfl (X101.de ivd_4) rfl rfl) ?_
  show Run _ _ _ _ _ _ _ _ _ _ _ _ T101 (mkF m 5 #[.val (.ref xa), .val (.ref b), .val .null, .unset, .unset] [(.ref b)])
  refine Run.callV X101 (y := (⟨"java/lang/AbstractStringBuilder", "getValue", "()[B"⟩ : MethodName)) (W := 0) (con_gv l hw B.2.1 O) EB (wd hw 130 rfl) (wd hw 131 rfl) (wd hw 132 rfl) (wd hw 133 rfl) (wd hw 38 rfl) (wd hw 134 rfl) (by decide) pd____B rfl (argsL := []) (rest := []) rfl (Nat.le_of_ble_eq_true rfl) rfl ivd_5 (by decide) (by decide) (Nat.le_of_ble_eq_true rfl) (Nat.le_of_ble_eq_true rfl) (nofun) (nofun) ?_
  intro v102 T102 h102 L102 q102 X102 XF102 K102
  obtain ⟨rfl, rfl⟩ := q102
  show Run _ _ _ _ _ _ _ _ _ _ _ _ T102 (mkF m 8 #[.val (.ref xa), .val (.ref b), .val .null, .unset, .unset] [(.ref t)])
  refine Run.via (fun _ => XS.astoreN X102.at X102.ex rfl (X102.de ivd_8) rfl rfl (l' := #[.val (.ref xa), .val (.ref b), .val .null, .val (.ref t), .unset]) rfl) ?_
  show Run _ _ _ _ _ _ _ _ _ _ _ _ T102 (mkF m 9 #[.val (.ref xa), .val (.ref b), .val .null, .val (.ref t), .unset] [])
  refine Run.via (fun _ => XS.aloadN X102.at X102.ex rfl (X102.de ivd_9) rfl rfl) ?_
  show Run _ _ _ _ _ _ _ _ _ _ _ _ T102 (mkF m 10 #[.val (.ref xa), .val (.ref b), .val .null, .val (.ref t), .unset] [(.ref b)])
  refine Run.callVz X102 (y := (⟨"java/lang/AbstractStringBuilder", "length", "()I"⟩ : MethodName)) (z := (⟨"java/lang/StringBuilder", "length", "()I"⟩ : MethodName)) (W := 0) (con_l2 l hw B.1 B.2.2.2.1 O) EB (wd hw 135 rfl) (wd hw 136 rfl) (wd hw 139 rfl) (wd hw 138 rfl) (wd hw 72 rfl) rfl (wd hw 30 rfl) (wd hw 140 rfl) (by decide) pd___I rfl (argsL := []) (rest := []) rfl (Nat.le_of_ble_eq_true rfl) rfl ivd_10 (by decide) (by decide) (Nat.le_of_ble_eq_true rfl) (Nat.le_of_ble_eq_true rfl) (nofun) (nofun) ?_
  intro v103 T103 h103 L103 q103 X103 XF103 K103
  obtain ⟨rfl, rfl⟩ := q103
  show Run _ _ _ _ _ _ _ _ _ _ _ _ T103 (mkF m 13 #[.val (.ref xa), .val (.ref b), .val .null, .val (.ref t), .unset] [(.int (Int32.ofNat cs.length))])
  refine Run.via (fun _ => XS.istore X103.at X103.ex rfl (X103.de ivd_13) rfl (l' := #[.val (.ref xa), .val (.ref b), .val .null, .val (.ref t), .val (.int (Int32.ofNat cs.length))]) rfl) ?_
  show Run _ _ _ _ _ _ _ _ _ _ _ _ T103 (mkF m 15 #[.val (.ref xa), .val (.ref b), .val .null, .val (.ref t), .val (.int (Int32.ofNat cs.length))] [])
  refine Run.via (fun _ => XS.aloadN X103.at X103.ex rfl (X103.de ivd_15) rfl rfl) ?_
  show Run _ _ _ _ _ _ _ _ _ _ _ _ T103 (mkF m 16 #[.val (.ref xa), .val (.ref b), .val .null, .val (.ref t), .val (.int (Int32.ofNat cs.length))] [(.ref b)])
  refine Run.callV X103 (y := (⟨"java/lang/AbstractStringBuilder", "isLatin1", "()Z"⟩ : MethodName)) (W := 0) (con_al l hw hS B.2.2.1 O) EB (wd hw 143 rfl) (wd hw 144 rfl) (wd hw 145 rfl) (wd hw 146 rfl) (wd hw 38 rfl) (wd hw 147 rfl) (by decide) pd___Z rfl (argsL := []) (rest := []) rfl (Nat.le_of_ble_eq_true rfl) rfl ivd_16 (by decide) (by decide) (Nat.le_of_ble_eq_true rfl) (Nat.le_of_ble_eq_true rfl) (nofun) (nofun) ?_
  intro v104 T104 h104 L104 q104 X104 XF104 K104
  obtain ⟨rfl, rfl⟩ := q104
  show Run _ _ _ _ _ _ _ _ _ _ _ _ T104 (mkF m 19 #[.val (.ref xa), .val (.ref b), .val .null, .val (.ref t), .val (.int (Int32.ofNat cs.length))] [(.int (1 : Int32))])
  refine Run.via (fun _ => XS.ifNo X104.at X104.ex rfl (X104.de ivd_19) rfl ((if0 _ _).trans (feq (by decide : ¬ ((1 : Int32) = (0 : Int32)))).1)) ?_
  show Run _ _ _ _ _ _ _ _ _ _ _ _ T104 (mkF m 22 #[.val (.ref xa), .val (.ref b), .val .null, .val (.ref t), .val (.int (Int32.ofNat cs.length))] [])
  refine Run.via (fun _ => XS.aloadN X104.at X104.ex rfl (X104.de ivd_22) rfl rfl) ?_
  show Run _ _ _ _ _ _ _ _ _ _ _ _ T104 (mkF m 23 #[.val (.ref xa), .val (.ref b), .val .null, .val (.ref t), .val (.int (Int32.ofNat cs.length))] [(.ref xa)])
  refine Run.via (fun _ => XS.iconst X104.at X104.ex rfl (X104.de ivd_23)) ?_
  show Run _ _ _ _ _ _ _ _ _ _ _ _ T104 (mkF m 24 #[.val (.ref xa), .val (.ref b), .val .null, .val (.ref t), .val (.int (Int32.ofNat cs.length))] [(.int (0 : Int32)), (.ref xa)])
  refine Run.putf X104 (wd hw 21 rfl) Via.refl G.2.2 G.1 (Or.inr ⟨(wd hw 17 rfl), rfl, rfl⟩) (wd hw 1 rfl) (ty := .byte) (v' := (.int (0 : Int32))) (by decide) rfl rfl (Or.inl (List.mem_singleton.mpr rfl)) hz (Or.inr (by simp)) ivd_24 ?_
  intro T105 h105 L105 X105 K105 W105 F105 E105
  show Run _ _ _ _ _ _ _ _ _ _ _ _ T105 (mkF m 27 #[.val (.ref xa), .val (.ref b), .val .null, .val (.ref t), .val (.int (Int32.ofNat cs.length))] [])
  have V0 := (G.2.1.other W105 (Or.inr (slot_ne (Or.inr (wd hw 16 rfl)) (Or.inr (wd hw 17 rfl)) (by decide) (t := (.array .byte)) (t' := .byte) (by decide) (by decide))))
  obtain ⟨kx, Vx, hx4⟩ := id B.2.2.2.2.1
  have nx : t ≠ xa := Ne.symm (G.1.neArv Vx (wd hw 1 rfl))
  have A1 := B.2.2.2.2.1.keep K105 (ninS nx nin0)
  have E1 := B.2.2.2.2.2.keep K105
  refine Run.via (fun _ => XS.aloadN X105.at X105.ex rfl (X105.de ivd_27) rfl rfl) ?_
  show Run _ _ _ _ _ _ _ _ _ _ _ _ T105 (mkF m 28 #[.val (.ref xa), .val (.ref b), .val .null, .val (.ref t), .val (.int (Int32.ofNat cs.length))] [(.ref xa)])
  refine Run.via (fun _ => XS.aloadN X105.at X105.ex rfl (X105.de ivd_28) rfl rfl) ?_
  show Run _ _ _ _ _ _ _ _ _ _ _ _ T105 (mkF m 29 #[.val (.ref xa), .val (.ref b), .val .null, .val (.ref t), .val (.int (Int32.ofNat cs.length))] [(.ref t), (.ref xa)])
  refine Run.via (fun _ => XS.iconst X105.at X105.ex rfl (X105.de ivd_29)) ?_
  show Run _ _ _ _ _ _ _ _ _ _ _ _ T105 (mkF m 30 #[.val (.ref xa), .val (.ref b), .val .null, .val (.ref t), .val (.int (Int32.ofNat cs.length))] [(.int (0 : Int32)), (.ref t), (.ref xa)])
  refine Run.via (fun _ => XS.iload X105.at X105.ex rfl (X105.de ivd_30) rfl) ?_
  show Run _ _ _ _ _ _ _ _ _ _ _ _ T105 (mkF m 32 #[.val (.ref xa), .val (.ref b), .val .null, .val (.ref t), .val (.int (Int32.ofNat cs.length))] [(.int (Int32.ofNat cs.length)), (.int (0 : Int32)), (.ref t), (.ref xa)])
  by_cases hn : n = 0
  ·
    subst hn
    rw [List.replicate_zero, List.append_nil] at A1
    rw [show Int32.ofNat cs.length = Int32.ofNat (cs.map StrChars.lo8).length from by rw [List.length_map]]
    show Run _ _ _ _ _ _ _ _ _ _ _ _ T105 (mkF m 32 #[.val (.ref xa), .val (.ref b), .val .null, .val (.ref t), .val (.int (Int32.ofNat (cs.map StrChars.lo8).length))] [(.int (Int32.ofNat (cs.map StrChars.lo8).length)), (.int (0 : Int32)), (.ref t), (.ref xa)])
    refine Run.callS X105 (y := (⟨"java/util/Arrays", "copyOfRange", "([BII)[B"⟩ : MethodName)) (W := 1) (con_crw l hw A1 E1 (by simpa using hcap) X105.old) (wd hw 148 rfl) (wd hw 149 rfl) (wd hw 112 rfl) (wd hw 150 rfl) (by decide) pd___BII__B rfl (argsL := [(.ref t), (.int (0 : Int32)), (.int (Int32.ofNat (cs.map StrChars.lo8).length))]) (rest := [(.ref xa)]) rfl (Nat.le_of_ble_eq_true rfl) rfl ivd_32 (by decide) (by decide) (Nat.le_of_ble_eq_true rfl) (Nat.le_of_ble_eq_true rfl) (nofun) (nofun) ?_
    intro v106 T106 h106 L106 q106 X106 XF106 K106
    obtain ⟨x, rfl, Ax⟩ := q106
    show Run _ _ _ _ _ _ _ _ _ _ _ _ T106 (mkF m 35 #[.val (.ref xa), .val (.ref b), .val .null, .val (.ref t), .val (.int (Int32.ofNat (cs.map StrChars.lo8).length))] [(.ref x), (.ref xa)])
    refine Run.putf X106 (wd hw 20 rfl) Via.refl (V0.keep K106 nin0) (E105.keep K106) (Or.inr ⟨(wd hw 16 rfl), rfl, rfl⟩) (wd hw 1 rfl) (ty := (.array .byte)) (v' := (.ref x)) (by decide) rfl rfl (Or.inl (List.mem_singleton.mpr rfl)) hz (Or.inr (by simp)) ivd_35 ?_
    intro T107 h107 L107 X107 K107 W107 F107 E107
    show Run _ _ _ _ _ _ _ _ _ _ _ _ T107 (mkF m 38 #[.val (.ref xa), .val (.ref b), .val .null, .val (.ref t), .val (.int (Int32.ofNat (cs.map StrChars.lo8).length))] [])
    have C1 := ((F105.keep K106 nin0).other W107 (Or.inr (slot_ne (Or.inr (wd hw 17 rfl)) (Or.inr (wd hw 16 rfl)) (by decide) (t := .byte) (t' := (.array .byte)) (by decide) (by decide))))
    obtain ⟨ky, Vy, hy4⟩ := Ax
    have ny : x ≠ xa := Ne.symm ((E105.keep K106).neArv Vy (wd hw 1 rfl))
    have V2 := Vy.keep K107 (ninS ny nin0)
    refine Run.via (fun _ => XS.goto X107.at X107.ex rfl (pc0 := 38) (pc' := 97) rfl (X107.de ivd_38) (by decide) (by decide)) ?_
    show Run _ _ _ _ _ _ _ _ _ _ _ _ T107 (mkF m 97 #[.val (.ref xa), .val (.ref b), .val .null, .val (.ref t), .val (.int (Int32.ofNat (cs.map StrChars.lo8).length))] [])
    exact Run.retV X107 rfl ivd_97 (Nat.le_of_ble_eq_true rfl) (Nat.le_of_ble_eq_true rfl) (⟨rfl, Str.ofLat E107 F107 C1 ⟨ky, V2, hy4⟩ hl⟩)
  ·
    refine Run.callS X105 (y := (⟨"java/util/Arrays", "copyOfRange", "([BII)[B"⟩ : MethodName)) (W := 1) (con_cr l hw (b := 0) (n := cs.length) A1 (by omega) (by rw [sb_len]; omega) (by omega) (by rw [sb_len]; omega) X105.old) (wd hw 148 rfl) (wd hw 149 rfl) (wd hw 112 rfl) (wd hw 150 rfl) (by decide) pd___BII__B rfl (argsL := [(.ref t), (.int (0 : Int32)), (.int (Int32.ofNat cs.length))]) (rest := [(.ref xa)]) rfl (Nat.le_of_ble_eq_true rfl) rfl ivd_32 (by decide) (by decide) (Nat.le_of_ble_eq_true rfl) (Nat.le_of_ble_eq_true rfl) (nofun) (nofun) ?_
    intro v108 T108 h108 L108 q108 X108 XF108 K108
    obtain ⟨x, rfl, Ax⟩ := q108
    show Run _ _ _ _ _ _ _ _ _ _ _ _ T108 (mkF m 35 #[.val (.ref xa), .val (.ref b), .val .null, .val (.ref t), .val (.int (Int32.ofNat cs.length))] [(.ref x), (.ref xa)])
    rw [List.drop_zero, Nat.sub_zero, take_lo8] at Ax
    refine Run.putf X108 (wd hw 20 rfl) Via.refl (V0.keep K108 nin0) (E105.keep K108) (Or.inr ⟨(wd hw 16 rfl), rfl, rfl⟩) (wd hw 1 rfl) (ty := (.array .byte)) (v' := (.ref x)) (by decide) rfl rfl (Or.inl (List.mem_singleton.mpr rfl)) hz (Or.inr (by simp)) ivd_35 ?_
    intro T109 h109 L109 X109 K109 W109 F109 E109
    show Run _ _ _ _ _ _ _ _ _ _ _ _ T109 (mkF m 38 #[.val (.ref xa), .val (.ref b), .val .null, .val (.ref t), .val (.int (Int32.ofNat cs.length))] [])
    have C1 := ((F105.keep K108 nin0).other W109 (Or.inr (slot_ne (Or.inr (wd hw 17 rfl)) (Or.inr (wd hw 16 rfl)) (by decide) (t := .byte) (t' := (.array .byte)) (by decide) (by decide))))
    obtain ⟨ky, Vy, hy4⟩ := Ax
    have ny : x ≠ xa := Ne.symm ((E105.keep K108).neArv Vy (wd hw 1 rfl))
    have V2 := Vy.keep K109 (ninS ny nin0)
    refine Run.via (fun _ => XS.goto X109.at X109.ex rfl (pc0 := 38) (pc' := 97) rfl (X109.de ivd_38) (by decide) (by decide)) ?_
    show Run _ _ _ _ _ _ _ _ _ _ _ _ T109 (mkF m 97 #[.val (.ref xa), .val (.ref b), .val .null, .val (.ref t), .val (.int (Int32.ofNat cs.length))] [])
    exact Run.retV X109 rfl ivd_97 (Nat.le_of_ble_eq_true rfl) (Nat.le_of_ble_eq_true rfl) (⟨rfl, Str.ofLat E109 F109 C1 ⟨ky, V2, hy4⟩ hl⟩)
-- part con_isb
theorem isbd_0 : decode jdk_42_method_53_code 0 = .ok (.aload_n 0, 1) := by decide +kernel
theorem isbd_1 : decode jdk_42_method_53_code 1 = .ok (.aload_n 1, 1) := by decide +kernel
theorem isbd_2 : decode jdk_42_method_53_code 2 = .ok (.aconst_null, 1) := by decide +kernel
theorem isbd_3 : decode jdk_42_method_53_code 3 = .ok (.invokespecial 489, 3) := by decide +kernel
theorem isbd_6 : decode jdk_42_method_53_code 6 = .ok (.return_, 1) := by decide +kernel
set_option maxRecDepth 65536 in
set_option maxHeartbeats 40000000 in
theorem con_isb (l : Launch) {Z : State} {a0 : Array Value} {EL : List (String × Nat)} {h0 : Heap} (hw : ∀ d ∈ tables_1, d.before a0 Z = true) (hS : Sets Z) {xa b t : Addr} {cs : List Int32} {n : Nat} (hl : Lat cs) (B : SB Z h0 b t cs n) (G : Raw Z h0 xa) (hz : Z.heap.size ≤ xa) (hcap : cs.length ≤ 35) (O : Ext Z.heap h0) : Con l Z a0 EL svN false (⟨"java/lang/String", "<init>", "(Ljava/lang/StringBuilder;)V"⟩ : MethodName) jdk_42_method_53_code 2 none ({ frames := 4, cells := 1, slots := 35, locals := 102 } : Room) [xa] [xa] #[(.ref xa), (.ref b)] h0 (fun v h => v = none ∧ Str Z h xa cs) := by
  refine Con.enter (plainFor_of_name (by first | (simp [plainName, overriddenIn]; done) | decide +kernel)) O ?_
  intro p e s m below meth c T0 X0
  rw [show entryFrame m #[(.ref xa), (.ref b)] 2 = (mkF m 0 #[.val (.ref xa), .val (.ref b)] []) from by first | (simp [entryFrame, mkF, argsToLocals, Value.category]; done) | rfl]
  refine Run.via (fun _ => XS.aloadN X0.at X0.ex rfl (X0.de isbd_0) rfl rfl) ?_
  show Run _ _ _ _ _ _ _ _ _ _ _ _ T0 (mkF m 1 #[.val (.ref xa), .val (.ref b)] [(.ref xa)])
  refine Run.via (fun _ => XS.aloadN X0.at X0.ex rfl (X0.de isbd_1) rfl rfl) ?_
  show Run _ _ _ _ _ _ _ _ _ _ _ _ T0 (mkF m 2 #[.val (.ref xa), .val (.ref b)] [(.ref b), (.ref xa)])
  refine Run.via (fun _ => XS.aconstNull X0.at X0.ex rfl (X0.de isbd_2)) ?_
  show Run _ _ _ _ _ _ _ _ _ _ _ _ T0 (mkF m 3 #[.val (.ref xa), .val (.ref b)] [.null, (.ref b), (.ref xa)])
  refine Run.callN X0 (y := (⟨"java/lang/String", "<init>", "(Ljava/lang/AbstractStringBuilder;Ljava/lang/Void;)V"⟩ : MethodName)) (W := 0) (con_iv l hw hS hl B G hz hcap O) rfl (wd hw 127 rfl) (wd hw 128 rfl) (wd hw 2 rfl) (wd hw 129 rfl) (by decide) pd__Ljava_lang_AbstractStringBuilder_Ljava_lang_Void__V rfl (argsL := [(.ref b), .null]) (rest := []) rfl (Nat.le_of_ble_eq_true rfl) rfl isbd_3 (by decide) (by decide) (Nat.le_of_ble_eq_true rfl) (Nat.le_of_ble_eq_true rfl) (fun y hy => by cases List.mem_singleton.mp hy; exact ⟨(Or.inl (List.mem_singleton.mpr rfl)), hz⟩) (fun y hy => hy) ?_
  intro v101 T101 h101 L101 q101 X101 XF101 K101
  obtain ⟨rfl, S⟩ := q101
  show Run _ _ _ _ _ _ _ _ _ _ _ _ T101 (mkF m 6 #[.val (.ref xa), .val (.ref b)] [])
  exact Run.retV X101 rfl isbd_6 (Nat.le_of_ble_eq_true rfl) (Nat.le_of_ble_eq_true rfl) (⟨rfl, S⟩)
-- part con_tos
theorem tosd_0 : decode jdk_67_method_42_code 0 = .ok (.new 18, 3) := by decide +kernel
theorem tosd_3 : decode jdk_67_method_42_code 3 = .ok (.dup, 1) := by decide +kernel
theorem tosd_4 : decode jdk_67_method_42_code 4 = .ok (.aload_n 0, 1) := by decide +kernel
theorem tosd_5 : decode jdk_67_method_42_code 5 = .ok (.invokespecial 137, 3) := by decide +kernel
theorem tosd_8 : decode jdk_67_method_42_code 8 = .ok (.areturn, 1) := by decide +kernel
set_option maxRecDepth 65536 in
set_option maxHeartbeats 40000000 in
theorem con_tos (l : Launch) {Z : State} {a0 : Array Value} {EL : List (String × Nat)} {h0 : Heap} (hw : ∀ d ∈ tables_1, d.before a0 Z = true) (hS : Sets Z) {b t : Addr} {cs : List Int32} {n : Nat} (hl : Lat cs) (B : SB Z h0 b t cs n) (hcap : cs.length ≤ 35) (O : Ext Z.heap h0) : Con l Z a0 EL svN false (⟨"java/lang/StringBuilder", "toString", "()Ljava/lang/String;"⟩ : MethodName) jdk_67_method_42_code 1 (some (.object "java/lang/String")) ({ frames := 5, cells := 2, slots := 39, locals := 116 } : Room) [] [] #[(.ref b)] h0 (fun v h => ∃ x, v = some (.ref x) ∧ Str Z h x cs) := by
  refine Con.enter (plainFor_of_name (by first | (simp [plainName, overriddenIn]; done) | decide +kernel)) O ?_
  intro p e s m below meth c T0 X0
  rw [show entryFrame m #[(.ref b)] 1 = (mkF m 0 #[.val (.ref b)] []) from by first | (simp [entryFrame, mkF, argsToLocals, Value.category]; done) | rfl]
  have ho := O.1
  refine Run.new X0 (wd hw 123 rfl) (wd hw 1 rfl) (wd hw 2 rfl) tosd_0 (Nat.le_of_ble_eq_true rfl) (Nat.le_of_ble_eq_true rfl) ?_
  intro T101 h101 x101 g101 X101 K101 z101 E101 D101
  show Run _ _ _ _ _ _ _ _ _ _ _ _ T101 (mkF m 3 #[.val (.ref b)] [(.ref x101)])
  have sx := K101.1
  have G : Raw Z h101 x101 := ⟨E101, D101 (Or.inr (wd hw 16 rfl)) (ty := (.array .byte)) (by decide), D101 (Or.inr (wd hw 17 rfl)) (ty := .byte) (by decide)⟩
  refine Run.via (fun _ => XS.dup X101.at X101.ex rfl (X101.de tosd_3) rfl rfl) ?_
  show Run _ _ _ _ _ _ _ _ _ _ _ _ T101 (mkF m 4 #[.val (.ref b)] [(.ref x101), (.ref x101)])
  refine Run.via (fun _ => XS.aloadN X101.at X101.ex rfl (X101.de tosd_4) rfl rfl) ?_
  show Run _ _ _ _ _ _ _ _ _ _ _ _ T101 (mkF m 5 #[.val (.ref b)] [(.ref b), (.ref x101), (.ref x101)])
  refine Run.callN X101 (y := (⟨"java/lang/String", "<init>", "(Ljava/lang/StringBuilder;)V"⟩ : MethodName)) (W := 1) (con_isb l hw hS hl (B.keep K101) G (by omega) hcap X101.old) rfl (wd hw 124 rfl) (wd hw 125 rfl) (wd hw 2 rfl) (wd hw 126 rfl) (by decide) pd__Ljava_lang_StringBuilder__V rfl (argsL := [(.ref b)]) (rest := [(.ref x101)]) rfl (Nat.le_of_ble_eq_true rfl) rfl tosd_5 (by decide) (by decide) (Nat.le_of_ble_eq_true rfl) (Nat.le_of_ble_eq_true rfl) (fun y hy => by cases List.mem_singleton.mp hy; exact ⟨Or.inr (by omega), by omega⟩) (fun y hy => by cases List.mem_singleton.mp hy; simp) ?_
  intro v102 T102 h102 L102 q102 X102 XF102 K102
  obtain ⟨rfl, S⟩ := q102
  show Run _ _ _ _ _ _ _ _ _ _ _ _ T102 (mkF m 8 #[.val (.ref b)] [(.ref x101)])
  exact Run.retA X102 (t := (.object "java/lang/String")) rfl rfl rfl tosd_8 (Nat.le_of_ble_eq_true rfl) (Nat.le_of_ble_eq_true rfl) (⟨x101, rfl, S⟩) (fun _ z => z.elim)
-- part con_gm
theorem gmd_0 : decode jdk_78_method_6_code 0 = .ok (.aload_n 0, 1) := by decide +kernel
theorem gmd_1 : decode jdk_78_method_6_code 1 = .ok (.getfield 31, 3) := by decide +kernel
theorem gmd_4 : decode jdk_78_method_6_code 4 = .ok (.areturn, 1) := by decide +kernel
set_option maxRecDepth 65536 in
set_option maxHeartbeats 40000000 in
theorem con_gm (l : Launch) {Z : State} {a0 : Array Value} {EL : List (String × Nat)} {h0 : Heap} (hw : ∀ d ∈ tables_1, d.before a0 Z = true) {x ms : Addr} (F : Fld Z h0 x "java/lang/Throwable" "detailMessage" "Ljava/lang/String;" (.ref ms)) (O : Ext Z.heap h0) : Con l Z a0 EL svN false (⟨"java/lang/Throwable", "getMessage", "()Ljava/lang/String;"⟩ : MethodName) jdk_78_method_6_code 1 (some (.object "java/lang/String")) ({ frames := 0, cells := 0, slots := 0, locals := 0 } : Room) [] [] #[(.ref x)] h0 (fun v h => v = some (.ref ms) ∧ h0 = h) := by
  refine Con.enter (plainFor_of_name (by first | (simp [plainName, overriddenIn]; done) | decide +kernel)) O ?_
  intro p e s m below meth c T0 X0
  rw [show entryFrame m #[(.ref x)] 1 = (mkF m 0 #[.val (.ref x)] []) from by first | (simp [entryFrame, mkF, argsToLocals, Value.category]; done) | rfl]
  refine Run.via (fun _ => XS.aloadN X0.at X0.ex rfl (X0.de gmd_0) rfl rfl) ?_
  show Run _ _ _ _ _ _ _ _ _ _ _ _ T0 (mkF m 1 #[.val (.ref x)] [(.ref x)])
  refine Run.getf X0 (wd hw 213 rfl) Via.refl F gmd_1 ?_
  intro T101 X101
  show Run _ _ _ _ _ _ _ _ _ _ _ _ T101 (mkF m 4 #[.val (.ref x)] [(.ref ms)])
  exact Run.retA X101 (t := (.object "java/lang/String")) rfl rfl rfl gmd_4 (Nat.le_of_ble_eq_true rfl) (Nat.le_of_ble_eq_true rfl) (⟨rfl, rfl⟩) (fun _ z => z.elim)
-- part con_t1
theorem t1d_0 : decode jdk_78_method_2_code 0 = .ok (.aload_n 0, 1) := by decide +kernel
theorem t1d_1 : decode jdk_78_method_2_code 1 = .ok (.invokespecial 1, 3) := by decide +kernel
theorem t1d_4 : decode jdk_78_method_2_code 4 = .ok (.aload_n 0, 1) := by decide +kernel
theorem t1d_5 : decode jdk_78_method_2_code 5 = .ok (.aload_n 0, 1) := by decide +kernel
theorem t1d_6 : decode jdk_78_method_2_code 6 = .ok (.putfield 7, 3) := by decide +kernel
theorem t1d_9 : decode jdk_78_method_2_code 9 = .ok (.aload_n 0, 1) := by decide +kernel
theorem t1d_10 : decode jdk_78_method_2_code 10 = .ok (.getstatic 13, 3) := by decide +kernel
theorem t1d_13 : decode jdk_78_method_2_code 13 = .ok (.putfield 17, 3) := by decide +kernel
theorem t1d_16 : decode jdk_78_method_2_code 16 = .ok (.aload_n 0, 1) := by decide +kernel
theorem t1d_17 : decode jdk_78_method_2_code 17 = .ok (.getstatic 20, 3) := by decide +kernel
theorem t1d_20 : decode jdk_78_method_2_code 20 = .ok (.putfield 24, 3) := by decide +kernel
theorem t1d_23 : decode jdk_78_method_2_code 23 = .ok (.aload_n 0, 1) := by decide +kernel
theorem t1d_24 : decode jdk_78_method_2_code 24 = .ok (.invokevirtual 27, 3) := by decide +kernel
theorem t1d_27 : decode jdk_78_method_2_code 27 = .ok (.pop, 1) := by decide +kernel
theorem t1d_28 : decode jdk_78_method_2_code 28 = .ok (.aload_n 0, 1) := by decide +kernel
theorem t1d_29 : decode jdk_78_method_2_code 29 = .ok (.aload_n 1, 1) := by decide +kernel
theorem t1d_30 : decode jdk_78_method_2_code 30 = .ok (.putfield 31, 3) := by decide +kernel
theorem t1d_33 : decode jdk_78_method_2_code 33 = .ok (.return_, 1) := by decide +kernel
set_option maxRecDepth 65536 in
set_option maxHeartbeats 40000000 in
theorem con_t1 (l : Launch) {Z : State} {a0 : Array Value} {EL : List (String × Nat)} {h0 : Heap} (hw : ∀ d ∈ tables_1, d.before a0 Z = true) (hst : l.stackTraces = true) {u sn : Addr} (SU : Sta Z Z.heap "java/lang/Throwable" "UNASSIGNED_STACK" "[Ljava/lang/StackTraceElement;" (.ref u)) (SS : Sta Z Z.heap "java/lang/Throwable" "SUPPRESSED_SENTINEL" "Ljava/util/List;" (.ref sn)) {x ms : Addr} (E : Exa Z h0 x "com/example/veneer/veneer/VeneerException") (U : Unt h0 x) (Fc : Fld Z h0 x "java/lang/Throwable" "cause" "Ljava/lang/Throwable;" .null) (FS : Fld Z h0 x "java/lang/Throwable" "stackTrace" "[Ljava/lang/StackTraceElement;" .null) (Fp : Fld Z h0 x "java/lang/Throwable" "suppressedExceptions" "Ljava/util/List;" .null) (Fb : Fld Z h0 x "java/lang/Throwable" "backtrace" "Ljava/lang/Object;" .null) (Fd : Fld Z h0 x "java/lang/Throwable" "detailMessage" "Ljava/lang/String;" .null) (hz : Z.heap.size ≤ x) (O : Ext Z.heap h0) : Con l Z a0 EL svN true (⟨"java/lang/Throwable", "<init>", "(Ljava/lang/String;)V"⟩ : MethodName) jdk_78_method_2_code 2 none ({ frames := 3, cells := 1, slots := 2752, locals := 42 } : Room) [x] [x] #[(.ref x), (.ref ms)] h0 (fun v h => v = none ∧ Fld Z h x "java/lang/Throwable" "detailMessage" "Ljava/lang/String;" (.ref ms)) := by
  refine Con.enter (plainFor_of_name (by first | (simp [plainName, overriddenIn]; done) | decide +kernel)) O ?_
  intro p e s m below meth c T0 X0
  rw [show entryFrame m #[(.ref x), (.ref ms)] 2 = (mkF m 0 #[.val (.ref x), .val (.ref ms)] []) from by first | (simp [entryFrame, mkF, argsToLocals, Value.category]; done) | rfl]
  have ho := O.1
  refine Run.via (fun _ => XS.aloadN X0.at X0.ex rfl (X0.de t1d_0) rfl rfl) ?_
  show Run _ _ _ _ _ _ _ _ _ _ _ _ T0 (mkF m 1 #[.val (.ref x), .val (.ref ms)] [(.ref x)])
  refine Run.initO X0 (wd hw 177 rfl) (wd hw 12 rfl) (wd hw 13 rfl) rfl t1d_1 (by decide) (Nat.le_of_ble_eq_true rfl) ?_
  intro T101 X101
  show Run _ _ _ _ _ _ _ _ _ _ _ _ T101 (mkF m 4 #[.val (.ref x), .val (.ref ms)] [])
  refine Run.via (fun _ => XS.aloadN X101.at X101.ex rfl (X101.de t1d_4) rfl rfl) ?_
  show Run _ _ _ _ _ _ _ _ _ _ _ _ T101 (mkF m 5 #[.val (.ref x), .val (.ref ms)] [(.ref x)])
  refine Run.via (fun _ => XS.aloadN X101.at X101.ex rfl (X101.de t1d_5) rfl rfl) ?_
  show Run _ _ _ _ _ _ _ _ _ _ _ _ T101 (mkF m 6 #[.val (.ref x), .val (.ref ms)] [(.ref x), (.ref x)])
  refine Run.putf X101 (wd hw 178 rfl) Via.refl Fc E (Or.inl (wd hw 179 rfl)) (wd hw 27 rfl) (ty := (.object "java/lang/Throwable")) (v' := (.ref x)) (by decide) rfl rfl (Or.inl (List.mem_singleton.mpr rfl)) hz (Or.inl (by decide)) t1d_6 ?_
  intro T102 h102 L102 X102 K102 W102 F102 E102
  show Run _ _ _ _ _ _ _ _ _ _ _ _ T102 (mkF m 9 #[.val (.ref x), .val (.ref ms)] [])
  have FS := (FS.other W102 (Or.inr (slot_ne (Or.inl (wd hw 182 rfl)) (Or.inl (wd hw 179 rfl)) (by decide) (t := (.array (.object "java/lang/StackTraceElement"))) (t' := (.object "java/lang/Throwable")) (by decide) (by decide))))
  have Fp := (Fp.other W102 (Or.inr (slot_ne (Or.inl (wd hw 185 rfl)) (Or.inl (wd hw 179 rfl)) (by decide) (t := (.object "java/util/List")) (t' := (.object "java/lang/Throwable")) (by decide) (by decide))))
  have Fb := (Fb.other W102 (Or.inr (slot_ne (Or.inl (wd hw 210 rfl)) (Or.inl (wd hw 179 rfl)) (by decide) (t := (.object "java/lang/Object")) (t' := (.object "java/lang/Throwable")) (by decide) (by decide))))
  have Fd := (Fd.other W102 (Or.inr (slot_ne (Or.inl (wd hw 209 rfl)) (Or.inl (wd hw 179 rfl)) (by decide) (t := (.object "java/lang/String")) (t' := (.object "java/lang/Throwable")) (by decide) (by decide))))
  have Fc := F102
  have U := Unt.wr W102 U
  refine Run.via (fun _ => XS.aloadN X102.at X102.ex rfl (X102.de t1d_9) rfl rfl) ?_
  show Run _ _ _ _ _ _ _ _ _ _ _ _ T102 (mkF m 10 #[.val (.ref x), .val (.ref ms)] [(.ref x)])
  refine Run.gets X102 (wd hw 180 rfl) Via.refl SU t1d_10 ?_
  intro T103 X103
  show Run _ _ _ _ _ _ _ _ _ _ _ _ T103 (mkF m 13 #[.val (.ref x), .val (.ref ms)] [(.ref u), (.ref x)])
  refine Run.putf X103 (wd hw 181 rfl) Via.refl FS E102 (Or.inl (wd hw 182 rfl)) (wd hw 27 rfl) (ty := (.array (.object "java/lang/StackTraceElement"))) (v' := (.ref u)) (by decide) rfl rfl (Or.inl (List.mem_singleton.mpr rfl)) hz (Or.inl (by decide)) t1d_13 ?_
  intro T104 h104 L104 X104 K104 W104 F104 E104
  show Run _ _ _ _ _ _ _ _ _ _ _ _ T104 (mkF m 16 #[.val (.ref x), .val (.ref ms)] [])
  have Fc := (Fc.other W104 (Or.inr (slot_ne (Or.inl (wd hw 179 rfl)) (Or.inl (wd hw 182 rfl)) (by decide) (t := (.object "java/lang/Throwable")) (t' := (.array (.object "java/lang/StackTraceElement"))) (by decide) (by decide))))
  have Fp := (Fp.other W104 (Or.inr (slot_ne (Or.inl (wd hw 185 rfl)) (Or.inl (wd hw 182 rfl)) (by decide) (t := (.object "java/util/List")) (t' := (.array (.object "java/lang/StackTraceElement"))) (by decide) (by decide))))
  have Fb := (Fb.other W104 (Or.inr (slot_ne (Or.inl (wd hw 210 rfl)) (Or.inl (wd hw 182 rfl)) (by decide) (t := (.object "java/lang/Object")) (t' := (.array (.object "java/lang/StackTraceElement"))) (by decide) (by decide))))
  have Fd := (Fd.other W104 (Or.inr (slot_ne (Or.inl (wd hw 209 rfl)) (Or.inl (wd hw 182 rfl)) (by decide) (t := (.object "java/lang/String")) (t' := (.array (.object "java/lang/StackTraceElement"))) (by decide) (by decide))))
  have FS := F104
  have U := Unt.wr W104 U
  refine Run.via (fun _ => XS.aloadN X104.at X104.ex rfl (X104.de t1d_16) rfl rfl) ?_
  show Run _ _ _ _ _ _ _ _ _ _ _ _ T104 (mkF m 17 #[.val (.ref x), .val (.ref ms)] [(.ref x)])
  refine Run.gets X104 (wd hw 183 rfl) Via.refl SS t1d_17 ?_
  intro T105 X105
  show Run _ _ _ _ _ _ _ _ _ _ _ _ T105 (mkF m 20 #[.val (.ref x), .val (.ref ms)] [(.ref sn), (.ref x)])
  refine Run.putf X105 (wd hw 184 rfl) Via.refl Fp E104 (Or.inl (wd hw 185 rfl)) (wd hw 27 rfl) (ty := (.object "java/util/List")) (v' := (.ref sn)) (by decide) rfl rfl (Or.inl (List.mem_singleton.mpr rfl)) hz (Or.inl (by decide)) t1d_20 ?_
  intro T106 h106 L106 X106 K106 W106 F106 E106
  show Run _ _ _ _ _ _ _ _ _ _ _ _ T106 (mkF m 23 #[.val (.ref x), .val (.ref ms)] [])
  have Fc := (Fc.other W106 (Or.inr (slot_ne (Or.inl (wd hw 179 rfl)) (Or.inl (wd hw 185 rfl)) (by decide) (t := (.object "java/lang/Throwable")) (t' := (.object "java/util/List")) (by decide) (by decide))))
  have FS := (FS.other W106 (Or.inr (slot_ne (Or.inl (wd hw 182 rfl)) (Or.inl (wd hw 185 rfl)) (by decide) (t := (.array (.object "java/lang/StackTraceElement"))) (t' := (.object "java/util/List")) (by decide) (by decide))))
  have Fb := (Fb.other W106 (Or.inr (slot_ne (Or.inl (wd hw 210 rfl)) (Or.inl (wd hw 185 rfl)) (by decide) (t := (.object "java/lang/Object")) (t' := (.object "java/util/List")) (by decide) (by decide))))
  have Fd := (Fd.other W106 (Or.inr (slot_ne (Or.inl (wd hw 209 rfl)) (Or.inl (wd hw 185 rfl)) (by decide) (t := (.object "java/lang/String")) (t' := (.object "java/util/List")) (by decide) (by decide))))
  have Fp := F106
  have U := Unt.wr W106 U
  refine Run.via (fun _ => XS.aloadN X106.at X106.ex rfl (X106.de t1d_23) rfl rfl) ?_
  show Run _ _ _ _ _ _ _ _ _ _ _ _ T106 (mkF m 24 #[.val (.ref x), .val (.ref ms)] [(.ref x)])
  refine Run.fill (kx := true) (rc := "com/example/veneer/veneer/VeneerException") (u := u) (W := 0) X106 rfl O hst (excW hw) (wd hw 27 rfl) (by decide) E106 U FS Fb Fd SU (Or.inl (List.mem_singleton.mpr rfl)) hz (by simp) rfl t1d_24 (Nat.le_of_ble_eq_true rfl) (by decide) (by decide) (Nat.le_of_ble_eq_true rfl) (Nat.le_of_ble_eq_true rfl) ?_
  intro T107 h107 L107 X107 K107 F107
  show Run _ _ _ _ _ _ _ _ _ _ _ _ T107 (mkF m 27 #[.val (.ref x), .val (.ref ms)] [(.ref x)])
  refine Run.via (fun _ => XS.pop X107.at X107.ex rfl (X107.de t1d_27) rfl rfl) ?_
  show Run _ _ _ _ _ _ _ _ _ _ _ _ T107 (mkF m 28 #[.val (.ref x), .val (.ref ms)] [])
  refine Run.via (fun _ => XS.aloadN X107.at X107.ex rfl (X107.de t1d_28) rfl rfl) ?_
  show Run _ _ _ _ _ _ _ _ _ _ _ _ T107 (mkF m 29 #[.val (.ref x), .val (.ref ms)] [(.ref x)])
  refine Run.via (fun _ => XS.aloadN X107.at X107.ex rfl (X107.de t1d_29) rfl rfl) ?_
  show Run _ _ _ _ _ _ _ _ _ _ _ _ T107 (mkF m 30 #[.val (.ref x), .val (.ref ms)] [(.ref ms), (.ref x)])
  refine Run.putf X107 (wd hw 213 rfl) Via.refl F107 (E106.keep K107) (Or.inl (wd hw 209 rfl)) (wd hw 27 rfl) (ty := (.object "java/lang/String")) (v' := (.ref ms)) (by decide) rfl rfl (Or.inl (List.mem_singleton.mpr rfl)) hz (Or.inl (by decide)) t1d_30 ?_
  intro T108 h108 L108 X108 K108 W108 F108 E108
  show Run _ _ _ _ _ _ _ _ _ _ _ _ T108 (mkF m 33 #[.val (.ref x), .val (.ref ms)] [])
  exact Run.retV X108 rfl t1d_33 (Nat.le_of_ble_eq_true rfl) (Nat.le_of_ble_eq_true rfl) (⟨rfl, F108⟩)
-- part con_e1
theorem e1d_0 : decode jdk_59_method_2_code 0 = .ok (.aload_n 0, 1) := by decide +kernel
theorem e1d_1 : decode jdk_59_method_2_code 1 = .ok (.aload_n 1, 1) := by decide +kernel
theorem e1d_2 : decode jdk_59_method_2_code 2 = .ok (.invokespecial 7, 3) := by decide +kernel
theorem e1d_5 : decode jdk_59_method_2_code 5 = .ok (.return_, 1) := by decide +kernel
set_option maxRecDepth 65536 in
set_option maxHeartbeats 40000000 in
theorem con_e1 (l : Launch) {Z : State} {a0 : Array Value} {EL : List (String × Nat)} {h0 : Heap} (hw : ∀ d ∈ tables_1, d.before a0 Z = true) (hst : l.stackTraces = true) {u sn : Addr} (SU : Sta Z Z.heap "java/lang/Throwable" "UNASSIGNED_STACK" "[Ljava/lang/StackTraceElement;" (.ref u)) (SS : Sta Z Z.heap "java/lang/Throwable" "SUPPRESSED_SENTINEL" "Ljava/util/List;" (.ref sn)) {x ms : Addr} (E : Exa Z h0 x "com/example/veneer/veneer/VeneerException") (U : Unt h0 x) (Fc : Fld Z h0 x "java/lang/Throwable" "cause" "Ljava/lang/Throwable;" .null) (FS : Fld Z h0 x "java/lang/Throwable" "stackTrace" "[Ljava/lang/StackTraceElement;" .null) (Fp : Fld Z h0 x "java/lang/Throwable" "suppressedExceptions" "Ljava/util/List;" .null) (Fb : Fld Z h0 x "java/lang/Throwable" "backtrace" "Ljava/lang/Object;" .null) (Fd : Fld Z h0 x "java/lang/Throwable" "detailMessage" "Ljava/lang/String;" .null) (hz : Z.heap.size ≤ x) (O : Ext Z.heap h0) : Con l Z a0 EL svN true (⟨"java/lang/Exception", "<init>", "(Ljava/lang/String;)V"⟩ : MethodName) jdk_59_method_2_code 2 none ({ frames := 4, cells := 1, slots := 2752, locals := 56 } : Room) [x] [x] #[(.ref x), (.ref ms)] h0 (fun v h => v = none ∧ Fld Z h x "java/lang/Throwable" "detailMessage" "Ljava/lang/String;" (.ref ms)) := by
  refine Con.enter (plainFor_of_name (by first | (simp [plainName, overriddenIn]; done) | decide +kernel)) O ?_
  intro p e s m below meth c T0 X0
  rw [show entryFrame m #[(.ref x), (.ref ms)] 2 = (mkF m 0 #[.val (.ref x), .val (.ref ms)] []) from by first | (simp [entryFrame, mkF, argsToLocals, Value.category]; done) | rfl]
  refine Run.via (fun _ => XS.aloadN X0.at X0.ex rfl (X0.de e1d_0) rfl rfl) ?_
  show Run _ _ _ _ _ _ _ _ _ _ _ _ T0 (mkF m 1 #[.val (.ref x), .val (.ref ms)] [(.ref x)])
  refine Run.via (fun _ => XS.aloadN X0.at X0.ex rfl (X0.de e1d_1) rfl rfl) ?_
  show Run _ _ _ _ _ _ _ _ _ _ _ _ T0 (mkF m 2 #[.val (.ref x), .val (.ref ms)] [(.ref ms), (.ref x)])
  refine Run.callN X0 (y := (⟨"java/lang/Throwable", "<init>", "(Ljava/lang/String;)V"⟩ : MethodName)) (W := 0) (con_t1 l hw hst SU SS E U Fc FS Fp Fb Fd hz O) rfl (wd hw 171 rfl) (wd hw 172 rfl) (wd hw 175 rfl) (wd hw 176 rfl) (by decide) pd__Ljava_lang_String__V rfl (argsL := [(.ref ms)]) (rest := []) rfl (Nat.le_of_ble_eq_true rfl) rfl e1d_2 (by decide) (by decide) (Nat.le_of_ble_eq_true rfl) (Nat.le_of_ble_eq_true rfl) (fun y hy => by cases List.mem_singleton.mp hy; exact ⟨(Or.inl (List.mem_singleton.mpr rfl)), hz⟩) (fun y hy => hy) ?_
  intro v101 T101 h101 L101 q101 X101 XF101 K101
  obtain ⟨rfl, FM⟩ := q101
  show Run _ _ _ _ _ _ _ _ _ _ _ _ T101 (mkF m 5 #[.val (.ref x), .val (.ref ms)] [])
  exact Run.retV X101 rfl e1d_5 (Nat.le_of_ble_eq_true rfl) (Nat.le_of_ble_eq_true rfl) (⟨rfl, FM⟩)
-- part con_r1
theorem r1d_0 : decode jdk_58_method_2_code 0 = .ok (.aload_n 0, 1) := by decide +kernel
theorem r1d_1 : decode jdk_58_method_2_code 1 = .ok (.aload_n 1, 1) := by decide +kernel
theorem r1d_2 : decode jdk_58_method_2_code 2 = .ok (.invokespecial 7, 3) := by decide +kernel
theorem r1d_5 : decode jdk_58_method_2_code 5 = .ok (.return_, 1) := by decide +kernel
set_option maxRecDepth 65536 in
set_option maxHeartbeats 40000000 in
theorem con_r1 (l : Launch) {Z : State} {a0 : Array Value} {EL : List (String × Nat)} {h0 : Heap} (hw : ∀ d ∈ tables_1, d.before a0 Z = true) (hst : l.stackTraces = true) {u sn : Addr} (SU : Sta Z Z.heap "java/lang/Throwable" "UNASSIGNED_STACK" "[Ljava/lang/StackTraceElement;" (.ref u)) (SS : Sta Z Z.heap "java/lang/Throwable" "SUPPRESSED_SENTINEL" "Ljava/util/List;" (.ref sn)) {x ms : Addr} (E : Exa Z h0 x "com/example/veneer/veneer/VeneerException") (U : Unt h0 x) (Fc : Fld Z h0 x "java/lang/Throwable" "cause" "Ljava/lang/Throwable;" .null) (FS : Fld Z h0 x "java/lang/Throwable" "stackTrace" "[Ljava/lang/StackTraceElement;" .null) (Fp : Fld Z h0 x "java/lang/Throwable" "suppressedExceptions" "Ljava/util/List;" .null) (Fb : Fld Z h0 x "java/lang/Throwable" "backtrace" "Ljava/lang/Object;" .null) (Fd : Fld Z h0 x "java/lang/Throwable" "detailMessage" "Ljava/lang/String;" .null) (hz : Z.heap.size ≤ x) (O : Ext Z.heap h0) : Con l Z a0 EL svN true (⟨"java/lang/RuntimeException", "<init>", "(Ljava/lang/String;)V"⟩ : MethodName) jdk_58_method_2_code 2 none ({ frames := 5, cells := 1, slots := 2752, locals := 70 } : Room) [x] [x] #[(.ref x), (.ref ms)] h0 (fun v h => v = none ∧ Fld Z h x "java/lang/Throwable" "detailMessage" "Ljava/lang/String;" (.ref ms)) := by
  refine Con.enter (plainFor_of_name (by first | (simp [plainName, overriddenIn]; done) | decide +kernel)) O ?_
  intro p e s m below meth c T0 X0
  rw [show entryFrame m #[(.ref x), (.ref ms)] 2 = (mkF m 0 #[.val (.ref x), .val (.ref ms)] []) from by first | (simp [entryFrame, mkF, argsToLocals, Value.category]; done) | rfl]
  refine Run.via (fun _ => XS.aloadN X0.at X0.ex rfl (X0.de r1d_0) rfl rfl) ?_
  show Run _ _ _ _ _ _ _ _ _ _ _ _ T0 (mkF m 1 #[.val (.ref x), .val (.ref ms)] [(.ref x)])
  refine Run.via (fun _ => XS.aloadN X0.at X0.ex rfl (X0.de r1d_1) rfl rfl) ?_
  show Run _ _ _ _ _ _ _ _ _ _ _ _ T0 (mkF m 2 #[.val (.ref x), .val (.ref ms)] [(.ref ms), (.ref x)])
  refine Run.callN X0 (y := (⟨"java/lang/Exception", "<init>", "(Ljava/lang/String;)V"⟩ : MethodName)) (W := 0) (con_e1 l hw hst SU SS E U Fc FS Fp Fb Fd hz O) rfl (wd hw 165 rfl) (wd hw 166 rfl) (wd hw 169 rfl) (wd hw 170 rfl) (by decide) pd__Ljava_lang_String__V rfl (argsL := [(.ref ms)]) (rest := []) rfl (Nat.le_of_ble_eq_true rfl) rfl r1d_2 (by decide) (by decide) (Nat.le_of_ble_eq_true rfl) (Nat.le_of_ble_eq_true rfl) (fun y hy => by cases List.mem_singleton.mp hy; exact ⟨(Or.inl (List.mem_singleton.mpr rfl)), hz⟩) (fun y hy => hy) ?_
  intro v101 T101 h101 L101 q101 X101 XF101 K101
  obtain ⟨rfl, FM⟩ := q101
  show Run _ _ _ _ _ _ _ _ _ _ _ _ T101 (mkF m 5 #[.val (.ref x), .val (.ref ms)] [])
  exact Run.retV X101 rfl r1d_5 (Nat.le_of_ble_eq_true rfl) (Nat.le_of_ble_eq_true rfl) (⟨rfl, FM⟩)
-- part con_v1
theorem v1d_0 : decode prog_4_method_1_code 0 = .ok (.aload_n 0, 1) := by decide +kernel
theorem v1d_1 : decode prog_4_method_1_code 1 = .ok (.aload_n 1, 1) := by decide +kernel
theorem v1d_2 : decode prog_4_method_1_code 2 = .ok (.invokespecial 1, 3) := by decide +kernel
theorem v1d_5 : decode prog_4_method_1_code 5 = .ok (.return_, 1) := by decide +kernel
set_option maxRecDepth 65536 in
set_option maxHeartbeats 40000000 in
theorem con_v1 (l : Launch) {Z : State} {a0 : Array Value} {EL : List (String × Nat)} {h0 : Heap} (hw : ∀ d ∈ tables_1, d.before a0 Z = true) (hst : l.stackTraces = true) {u sn : Addr} (SU : Sta Z Z.heap "java/lang/Throwable" "UNASSIGNED_STACK" "[Ljava/lang/StackTraceElement;" (.ref u)) (SS : Sta Z Z.heap "java/lang/Throwable" "SUPPRESSED_SENTINEL" "Ljava/util/List;" (.ref sn)) {x ms : Addr} (E : Exa Z h0 x "com/example/veneer/veneer/VeneerException") (U : Unt h0 x) (Fc : Fld Z h0 x "java/lang/Throwable" "cause" "Ljava/lang/Throwable;" .null) (FS : Fld Z h0 x "java/lang/Throwable" "stackTrace" "[Ljava/lang/StackTraceElement;" .null) (Fp : Fld Z h0 x "java/lang/Throwable" "suppressedExceptions" "Ljava/util/List;" .null) (Fb : Fld Z h0 x "java/lang/Throwable" "backtrace" "Ljava/lang/Object;" .null) (Fd : Fld Z h0 x "java/lang/Throwable" "detailMessage" "Ljava/lang/String;" .null) (hz : Z.heap.size ≤ x) (O : Ext Z.heap h0) : Con l Z a0 EL svN true (⟨"com/example/veneer/veneer/VeneerException", "<init>", "(Ljava/lang/String;)V"⟩ : MethodName) prog_4_method_1_code 2 none ({ frames := 6, cells := 1, slots := 2752, locals := 84 } : Room) [x] [x] #[(.ref x), (.ref ms)] h0 (fun v h => v = none ∧ Fld Z h x "java/lang/Throwable" "detailMessage" "Ljava/lang/String;" (.ref ms)) := by
  refine Con.enter (plainFor_of_name (by first | (simp [plainName, overriddenIn]; done) | decide +kernel)) O ?_
  intro p e s m below meth c T0 X0
  rw [show entryFrame m #[(.ref x), (.ref ms)] 2 = (mkF m 0 #[.val (.ref x), .val (.ref ms)] []) from by first | (simp [entryFrame, mkF, argsToLocals, Value.category]; done) | rfl]
  refine Run.via (fun _ => XS.aloadN X0.at X0.ex rfl (X0.de v1d_0) rfl rfl) ?_
  show Run _ _ _ _ _ _ _ _ _ _ _ _ T0 (mkF m 1 #[.val (.ref x), .val (.ref ms)] [(.ref x)])
  refine Run.via (fun _ => XS.aloadN X0.at X0.ex rfl (X0.de v1d_1) rfl rfl) ?_
  show Run _ _ _ _ _ _ _ _ _ _ _ _ T0 (mkF m 2 #[.val (.ref x), .val (.ref ms)] [(.ref ms), (.ref x)])
  refine Run.callN X0 (y := (⟨"java/lang/RuntimeException", "<init>", "(Ljava/lang/String;)V"⟩ : MethodName)) (W := 0) (con_r1 l hw hst SU SS E U Fc FS Fp Fb Fd hz O) rfl (wd hw 160 rfl) (wd hw 161 rfl) (wd hw 163 rfl) (wd hw 164 rfl) (by decide) pd__Ljava_lang_String__V rfl (argsL := [(.ref ms)]) (rest := []) rfl (Nat.le_of_ble_eq_true rfl) rfl v1d_2 (by decide) (by decide) (Nat.le_of_ble_eq_true rfl) (Nat.le_of_ble_eq_true rfl) (fun y hy => by cases List.mem_singleton.mp hy; exact ⟨(Or.inl (List.mem_singleton.mpr rfl)), hz⟩) (fun y hy => hy) ?_
  intro v101 T101 h101 L101 q101 X101 XF101 K101
  obtain ⟨rfl, FM⟩ := q101
  show Run _ _ _ _ _ _ _ _ _ _ _ _ T101 (mkF m 5 #[.val (.ref x), .val (.ref ms)] [])
  exact Run.retV X101 rfl v1d_5 (Nat.le_of_ble_eq_true rfl) (Nat.le_of_ble_eq_true rfl) (⟨rfl, FM⟩)
-- part con_ub
theorem ubd_0 : decode prog_4_method_3_code 0 = .ok (.new 10, 3) := by decide +kernel
theorem ubd_3 : decode prog_4_method_3_code 3 = .ok (.dup, 1) := by decide +kernel
theorem ubd_4 : decode prog_4_method_3_code 4 = .ok (.new 12, 3) := by decide +kernel
theorem ubd_7 : decode prog_4_method_3_code 7 = .ok (.dup, 1) := by decide +kernel
theorem ubd_8 : decode prog_4_method_3_code 8 = .ok (.invokespecial 14, 3) := by decide +kernel
theorem ubd_11 : decode prog_4_method_3_code 11 = .ok (.aload_n 0, 1) := by decide +kernel
theorem ubd_12 : decode prog_4_method_3_code 12 = .ok (.invokevirtual 17, 3) := by decide +kernel
theorem ubd_15 : decode prog_4_method_3_code 15 = .ok (.ldc 21, 2) := by decide +kernel
theorem ubd_17 : decode prog_4_method_3_code 17 = .ok (.invokevirtual 17, 3) := by decide +kernel
theorem ubd_20 : decode prog_4_method_3_code 20 = .ok (.invokevirtual 23, 3) := by decide +kernel
theorem ubd_23 : decode prog_4_method_3_code 23 = .ok (.invokespecial 27, 3) := by decide +kernel
theorem ubd_26 : decode prog_4_method_3_code 26 = .ok (.areturn, 1) := by decide +kernel
set_option maxRecDepth 65536 in
set_option maxHeartbeats 40000000 in
theorem con_ub (l : Launch) {Z : State} {a0 : Array Value} {EL : List (String × Nat)} {h0 : Heap} (hw : ∀ d ∈ tables_1, d.before a0 Z = true) (hS : Sets Z) (hN : NW = false) (hmV : ("com/example/veneer/veneer/VeneerException", 21) ∈ EL) (hst : l.stackTraces = true) {u sn : Addr} (SU : Sta Z Z.heap "java/lang/Throwable" "UNASSIGNED_STACK" "[Ljava/lang/StackTraceElement;" (.ref u)) (SS : Sta Z Z.heap "java/lang/Throwable" "SUPPRESSED_SENTINEL" "Ljava/util/List;" (.ref sn)) {a : Addr} {nl : List Int32} (hl : Lat nl) (hn : nl.length ≤ 3) (S : Str Z h0 a nl) (O : Ext Z.heap h0) : Con l Z a0 EL svN true (⟨"com/example/veneer/veneer/VeneerException", "unbound", "(Ljava/lang/String;)Lcom/example/veneer/veneer/VeneerException;"⟩ : MethodName) prog_4_method_3_code 1 (some (.object "com/example/veneer/veneer/VeneerException")) ({ frames := 7, cells := 9, slots := 2984, locals := 134 } : Room) [] [] #[(.ref a)] h0 (fun v h => ∃ x ms, v = some (.ref x) ∧ Exa Z h x "com/example/veneer/veneer/VeneerException" ∧ Fld Z h x "java/lang/Throwable" "detailMessage" "Ljava/lang/String;" (.ref ms) ∧ Str Z h ms (nl ++ ([58, 32, 116, 104, 101, 32, 118, 97, 114, 105, 97, 98, 108, 101, 32, 104, 97, 115, 32, 110, 111, 32, 118, 97, 108, 117, 101, 32, 104, 101, 114, 101] : List Int32))) := by
  refine Con.enter (plainFor_of_name (by first | (simp [plainName, overriddenIn]; done) | decide +kernel)) O ?_
  intro p e s m below meth c T0 X0
  rw [show entryFrame m #[(.ref a)] 1 = (mkF m 0 #[.val (.ref a)] []) from by first | (simp [entryFrame, mkF, argsToLocals, Value.category]; done) | rfl]
  have ho := O.1
  have hls : nl.length ≤ 3 := hn
  refine Run.newU X0 (wd hw 26 rfl) (wd hw 27 rfl) (wd hw 24 rfl) ubd_0 (Nat.le_of_ble_eq_true rfl) (Nat.le_of_ble_eq_true rfl) ?_
  intro T101 h101 x101 g101 X101 K101 z101 E101 D101 U101
  show Run _ _ _ _ _ _ _ _ _ _ _ _ T101 (mkF m 3 #[.val (.ref a)] [(.ref x101)])
  have Fc := D101 (Or.inl (wd hw 179 rfl)) (ty := (.object "java/lang/Throwable")) (by decide)
  have FS := D101 (Or.inl (wd hw 182 rfl)) (ty := (.array (.object "java/lang/StackTraceElement"))) (by decide)
  have Fp := D101 (Or.inl (wd hw 185 rfl)) (ty := (.object "java/util/List")) (by decide)
  have Fb := D101 (Or.inl (wd hw 210 rfl)) (ty := (.object "java/lang/Object")) (by decide)
  have Fd := D101 (Or.inl (wd hw 209 rfl)) (ty := (.object "java/lang/String")) (by decide)
  have kk0 := K101.1
  have E0 := E101
  have U0 := U101
  refine Run.via (fun _ => XS.dup X101.at X101.ex rfl (X101.de ubd_3) rfl rfl) ?_
  show Run _ _ _ _ _ _ _ _ _ _ _ _ T101 (mkF m 4 #[.val (.ref a)] [(.ref x101), (.ref x101)])
  refine Run.new X101 (wd hw 28 rfl) (wd hw 29 rfl) (wd hw 30 rfl) ubd_4 (Nat.le_of_ble_eq_true rfl) (Nat.le_of_ble_eq_true rfl) ?_
  intro T102 h102 x102 g102 X102 K102 z102 E102 D102
  show Run _ _ _ _ _ _ _ _ _ _ _ _ T102 (mkF m 7 #[.val (.ref a)] [(.ref x102), (.ref x101), (.ref x101)])
  have Fc := Fc.keep K102 nin0
  have FS := FS.keep K102 nin0
  have Fp := Fp.keep K102 nin0
  have Fb := Fb.keep K102 nin0
  have Fd := Fd.keep K102 nin0
  have E0 := E0.keep K102
  have U0 := Unt.keep K102 nin0 U0
  have kk1 := K102.1
  have G : SBR Z h102 x102 := ⟨E102, D102 (Or.inl (wd hw 43 rfl)) (ty := (.array .byte)) (by decide), D102 (Or.inl (wd hw 45 rfl)) (ty := .byte) (by decide), D102 (Or.inl (wd hw 68 rfl)) (ty := .int) (by decide)⟩
  refine Run.via (fun _ => XS.dup X102.at X102.ex rfl (X102.de ubd_7) rfl rfl) ?_
  show Run _ _ _ _ _ _ _ _ _ _ _ _ T102 (mkF m 8 #[.val (.ref a)] [(.ref x102), (.ref x102), (.ref x101), (.ref x101)])
  refine Run.callN X102 (y := (⟨"java/lang/StringBuilder", "<init>", "()V"⟩ : MethodName)) (W := 3) (con_bi l hw hS G (by omega) X102.old) rfl (wd hw 31 rfl) (wd hw 32 rfl) (wd hw 30 rfl) (wd hw 33 rfl) (by decide) pd___V rfl (argsL := []) (rest := [(.ref x102), (.ref x101), (.ref x101)]) rfl (Nat.le_of_ble_eq_true rfl) rfl ubd_8 (by decide) (by decide) (Nat.le_of_ble_eq_true rfl) (Nat.le_of_ble_eq_true rfl) (fun y hy => by cases List.mem_singleton.mp hy; exact ⟨Or.inr (by omega), by omega⟩) (nofun) ?_
  intro v103 T103 h103 L103 q103 X103 XF103 K103
  obtain ⟨t, rfl, gt, SB1⟩ := q103
  have X103 := XF103 _ SB1.2.1
  show Run _ _ _ _ _ _ _ _ _ _ _ _ T103 (mkF m 11 #[.val (.ref a)] [(.ref x102), (.ref x101), (.ref x101)])
  have Fc := Fc.keep K103 (ninS (neA (by omega)) nin0)
  have FS := FS.keep K103 (ninS (neA (by omega)) nin0)
  have Fp := Fp.keep K103 (ninS (neA (by omega)) nin0)
  have Fb := Fb.keep K103 (ninS (neA (by omega)) nin0)
  have Fd := Fd.keep K103 (ninS (neA (by omega)) nin0)
  have E0 := E0.keep K103
  have U0 := Unt.keep K103 (ninS (neA (by omega)) nin0) U0
  have kk2 := K103.1
  refine Run.via (fun _ => XS.aloadN X103.at X103.ex rfl (X103.de ubd_11) rfl rfl) ?_
  show Run _ _ _ _ _ _ _ _ _ _ _ _ T103 (mkF m 12 #[.val (.ref a)] [(.ref a), (.ref x102), (.ref x101), (.ref x101)])
  have EB1 := SB1.1
  refine Run.callV X103 (y := (⟨"java/lang/StringBuilder", "append", "(Ljava/lang/String;)Ljava/lang/StringBuilder;"⟩ : MethodName)) (W := 2) (con_as l hw hS hl (S.keep X103.kp) SB1 (by omega) (by omega) (by omega) X103.old) EB1 (wd hw 46 rfl) (wd hw 47 rfl) (wd hw 48 rfl) (wd hw 49 rfl) (wd hw 30 rfl) (wd hw 50 rfl) (by decide) pd__Ljava_lang_String__Ljava_lang_StringBuilder_ rfl (argsL := [(.ref a)]) (rest := [(.ref x101), (.ref x101)]) rfl (Nat.le_of_ble_eq_true rfl) rfl ubd_12 (by decide) (by decide) (Nat.le_of_ble_eq_true rfl) (Nat.le_of_ble_eq_true rfl) (fun y hy => by rcases List.mem_cons.mp hy with rfl | hy; exact ⟨Or.inr (by omega), by omega⟩; cases List.mem_singleton.mp hy; exact ⟨Or.inr (by omega), by omega⟩) (fun y hy => by cases List.mem_singleton.mp hy; simp) ?_
  intro v104 T104 h104 L104 q104 X104 XF104 K104
  obtain ⟨rfl, SB2⟩ := q104
  show Run _ _ _ _ _ _ _ _ _ _ _ _ T104 (mkF m 15 #[.val (.ref a)] [(.ref x102), (.ref x101), (.ref x101)])
  have Fc := Fc.keep K104 (ninS (neA (by omega)) (ninS (neA (by omega)) nin0))
  have FS := FS.keep K104 (ninS (neA (by omega)) (ninS (neA (by omega)) nin0))
  have Fp := Fp.keep K104 (ninS (neA (by omega)) (ninS (neA (by omega)) nin0))
  have Fb := Fb.keep K104 (ninS (neA (by omega)) (ninS (neA (by omega)) nin0))
  have Fd := Fd.keep K104 (ninS (neA (by omega)) (ninS (neA (by omega)) nin0))
  have E0 := E0.keep K104
  have U0 := Unt.keep K104 (ninS (neA (by omega)) (ninS (neA (by omega)) nin0)) U0
  have kk3 := K104.1
  rw [List.nil_append] at SB2
  refine Run.ldcS hw hN X104 (cs := [(58 : Int32), (32 : Int32), (116 : Int32), (104 : Int32), (101 : Int32), (32 : Int32), (118 : Int32), (97 : Int32), (114 : Int32), (105 : Int32), (97 : Int32), (98 : Int32), (108 : Int32), (101 : Int32), (32 : Int32), (104 : Int32), (97 : Int32), (115 : Int32), (32 : Int32), (110 : Int32), (111 : Int32), (32 : Int32), (118 : Int32), (97 : Int32), (108 : Int32), (117 : Int32), (101 : Int32), (32 : Int32), (104 : Int32), (101 : Int32), (114 : Int32), (101 : Int32)]) (n := 128) (wd hw 94 rfl) hmV (by decide) (by decide) (by decide) ubd_15 (by decide) (by decide) (Nat.le_of_ble_eq_true rfl) (Nat.le_of_ble_eq_true rfl) ?_
  intro a105 T105 h105 L105 X105 K105 S105
  show Run _ _ _ _ _ _ _ _ _ _ _ _ T105 (mkF m 17 #[.val (.ref a)] [(.ref a105), (.ref x102), (.ref x101), (.ref x101)])
  have Fc := Fc.keep K105 nin0
  have FS := FS.keep K105 nin0
  have Fp := Fp.keep K105 nin0
  have Fb := Fb.keep K105 nin0
  have Fd := Fd.keep K105 nin0
  have E0 := E0.keep K105
  have U0 := Unt.keep K105 nin0 U0
  have kk4 := K105.1
  have SB3 := SB2.keep K105
  have EB3 := SB3.1
  have htx : ([58, 32, 116, 104, 101, 32, 118, 97, 114, 105, 97, 98, 108, 101, 32, 104, 97, 115, 32, 110, 111, 32, 118, 97, 108, 117, 101, 32, 104, 101, 114, 101] : List Int32).length = 32 := rfl
  refine Run.callV X105 (y := (⟨"java/lang/StringBuilder", "append", "(Ljava/lang/String;)Ljava/lang/StringBuilder;"⟩ : MethodName)) (W := 2) (con_asg l hw hS (ds := ([58, 32, 116, 104, 101, 32, 118, 97, 114, 105, 97, 98, 108, 101, 32, 104, 97, 115, 32, 110, 111, 32, 118, 97, 108, 117, 101, 32, 104, 101, 114, 101] : List Int32)) latTX S105 SB3 (by omega) (by omega) (by omega) (by omega) X105.old) EB3 (wd hw 46 rfl) (wd hw 47 rfl) (wd hw 48 rfl) (wd hw 49 rfl) (wd hw 30 rfl) (wd hw 50 rfl) (by decide) pd__Ljava_lang_String__Ljava_lang_StringBuilder_ rfl (argsL := [(.ref a105)]) (rest := [(.ref x101), (.ref x101)]) rfl (Nat.le_of_ble_eq_true rfl) rfl ubd_17 (by decide) (by decide) (Nat.le_of_ble_eq_true rfl) (Nat.le_of_ble_eq_true rfl) (fun y hy => by cases List.mem_singleton.mp hy; exact ⟨Or.inr (by omega), by omega⟩) (nofun) ?_
  intro v106 T106 h106 L106 q106 X106 XF106 K106
  obtain ⟨t2, n2, rfl, gt2, hn2, SB4⟩ := q106
  show Run _ _ _ _ _ _ _ _ _ _ _ _ T106 (mkF m 20 #[.val (.ref a)] [(.ref x102), (.ref x101), (.ref x101)])
  have Fc := Fc.keep K106 (ninS (neA (by omega)) nin0)
  have FS := FS.keep K106 (ninS (neA (by omega)) nin0)
  have Fp := Fp.keep K106 (ninS (neA (by omega)) nin0)
  have Fb := Fb.keep K106 (ninS (neA (by omega)) nin0)
  have Fd := Fd.keep K106 (ninS (neA (by omega)) nin0)
  have E0 := E0.keep K106
  have U0 := Unt.keep K106 (ninS (neA (by omega)) nin0) U0
  have kk5 := K106.1
  have EB4 := SB4.1
  have hlm : Lat (nl ++ ([58, 32, 116, 104, 101, 32, 118, 97, 114, 105, 97, 98, 108, 101, 32, 104, 97, 115, 32, 110, 111, 32, 118, 97, 108, 117, 101, 32, 104, 101, 114, 101] : List Int32)) := fun c q => (List.mem_append.mp q).elim (hl c) (latTX c)
  refine Run.callV X106 (y := (⟨"java/lang/StringBuilder", "toString", "()Ljava/lang/String;"⟩ : MethodName)) (W := 2) (con_tos l hw hS hlm SB4 (by rw [List.length_append]; omega) X106.old) EB4 (wd hw 118 rfl) (wd hw 119 rfl) (wd hw 120 rfl) (wd hw 121 rfl) (wd hw 30 rfl) (wd hw 122 rfl) (by decide) pd___Ljava_lang_String_ rfl (argsL := []) (rest := [(.ref x101), (.ref x101)]) rfl (Nat.le_of_ble_eq_true rfl) rfl ubd_20 (by decide) (by decide) (Nat.le_of_ble_eq_true rfl) (Nat.le_of_ble_eq_true rfl) (nofun) (nofun) ?_
  intro v107 T107 h107 L107 q107 X107 XF107 K107
  obtain ⟨ms, rfl, SM⟩ := q107
  show Run _ _ _ _ _ _ _ _ _ _ _ _ T107 (mkF m 23 #[.val (.ref a)] [(.ref ms), (.ref x101), (.ref x101)])
  have Fc := Fc.keep K107 nin0
  have FS := FS.keep K107 nin0
  have Fp := Fp.keep K107 nin0
  have Fb := Fb.keep K107 nin0
  have Fd := Fd.keep K107 nin0
  have E0 := E0.keep K107
  have U0 := Unt.keep K107 nin0 U0
  have kk6 := K107.1
  refine Run.callN X107 (y := (⟨"com/example/veneer/veneer/VeneerException", "<init>", "(Ljava/lang/String;)V"⟩ : MethodName)) (W := 1) (con_v1 l hw hst SU SS E0 U0 Fc FS Fp Fb Fd (by omega) X107.old) rfl (wd hw 157 rfl) (wd hw 158 rfl) (wd hw 24 rfl) (wd hw 159 rfl) (by decide) pd__Ljava_lang_String__V rfl (argsL := [(.ref ms)]) (rest := [(.ref x101)]) rfl (Nat.le_of_ble_eq_true rfl) rfl ubd_23 (by decide) (by decide) (Nat.le_of_ble_eq_true rfl) (Nat.le_of_ble_eq_true rfl) (fun y hy => by cases List.mem_singleton.mp hy; exact ⟨Or.inr (by omega), by omega⟩) (fun y hy => by cases List.mem_singleton.mp hy; simp) ?_
  intro v108 T108 h108 L108 q108 X108 XF108 K108
  obtain ⟨rfl, FM⟩ := q108
  show Run _ _ _ _ _ _ _ _ _ _ _ _ T108 (mkF m 26 #[.val (.ref a)] [(.ref x101)])
  have SM2 := SM.keepO K108 E0 (by decide) (wd hw 27 rfl)
  have E9 := E0.keep K108
  exact Run.retA X108 (t := (.object "com/example/veneer/veneer/VeneerException")) rfl rfl rfl ubd_26 (Nat.le_of_ble_eq_true rfl) (Nat.le_of_ble_eq_true rfl) (⟨x101, ms, rfl, E9, FM, SM2⟩) (fun _ z => z.elim)
-- part con_ta
theorem tad_0 : decode method_3_code 0 = .ok (.ldc 36, 2) := by decide +kernel
theorem tad_2 : decode method_3_code 2 = .ok (.astore_n 2, 1) := by decide +kernel
theorem tad_3 : decode method_3_code 3 = .ok (.aload_n 2, 1) := by decide +kernel
theorem tad_4 : decode method_3_code 4 = .ok (.invokevirtual 22, 3) := by decide +kernel
theorem tad_7 : decode method_3_code 7 = .ok (.bipush 32, 2) := by decide +kernel
theorem tad_9 : decode method_3_code 9 = .ok (.if_icmp .eq 5, 3) := by decide +kernel
theorem tad_14 : decode method_3_code 14 = .ok (.aload_n 0, 1) := by decide +kernel
theorem tad_15 : decode method_3_code 15 = .ok (.iload_n 1, 1) := by decide +kernel
theorem tad_16 : decode method_3_code 16 = .ok (.invokevirtual 26, 3) := by decide +kernel
theorem tad_19 : decode method_3_code 19 = .ok (.aload_n 2, 1) := by decide +kernel
theorem tad_20 : decode method_3_code 20 = .ok (.iconst 0, 1) := by decide +kernel
theorem tad_21 : decode method_3_code 21 = .ok (.invokevirtual 26, 3) := by decide +kernel
theorem tad_24 : decode method_3_code 24 = .ok (.if_icmp .ne 524, 3) := by decide +kernel
theorem tad_27 : decode method_3_code 27 = .ok (.aload_n 0, 1) := by decide +kernel
theorem tad_28 : decode method_3_code 28 = .ok (.iload_n 1, 1) := by decide +kernel
theorem tad_29 : decode method_3_code 29 = .ok (.iconst 1, 1) := by decide +kernel
theorem tad_30 : decode method_3_code 30 = .ok (.iadd, 1) := by decide +kernel
theorem tad_31 : decode method_3_code 31 = .ok (.invokevirtual 26, 3) := by decide +kernel
theorem tad_34 : decode method_3_code 34 = .ok (.aload_n 2, 1) := by decide +kernel
theorem tad_35 : decode method_3_code 35 = .ok (.iconst 1, 1) := by decide +kernel
theorem tad_36 : decode method_3_code 36 = .ok (.invokevirtual 26, 3) := by decide +kernel
theorem tad_39 : decode method_3_code 39 = .ok (.if_icmp .ne 509, 3) := by decide +kernel
theorem tad_42 : decode method_3_code 42 = .ok (.aload_n 0, 1) := by decide +kernel
theorem tad_43 : decode method_3_code 43 = .ok (.iload_n 1, 1) := by decide +kernel
theorem tad_44 : decode method_3_code 44 = .ok (.iconst 2, 1) := by decide +kernel
theorem tad_45 : decode method_3_code 45 = .ok (.iadd, 1) := by decide +kernel
theorem tad_46 : decode method_3_code 46 = .ok (.invokevirtual 26, 3) := by decide +kernel
theorem tad_49 : decode method_3_code 49 = .ok (.aload_n 2, 1) := by decide +kernel
theorem tad_50 : decode method_3_code 50 = .ok (.iconst 2, 1) := by decide +kernel
theorem tad_51 : decode method_3_code 51 = .ok (.invokevirtual 26, 3) := by decide +kernel
theorem tad_54 : decode method_3_code 54 = .ok (.if_icmp .ne 494, 3) := by decide +kernel
theorem tad_57 : decode method_3_code 57 = .ok (.aload_n 0, 1) := by decide +kernel
theorem tad_58 : decode method_3_code 58 = .ok (.iload_n 1, 1) := by decide +kernel
theorem tad_59 : decode method_3_code 59 = .ok (.iconst 3, 1) := by decide +kernel
theorem tad_60 : decode method_3_code 60 = .ok (.iadd, 1) := by decide +kernel
theorem tad_61 : decode method_3_code 61 = .ok (.invokevirtual 26, 3) := by decide +kernel
theorem tad_64 : decode method_3_code 64 = .ok (.aload_n 2, 1) := by decide +kernel
theorem tad_65 : decode method_3_code 65 = .ok (.iconst 3, 1) := by decide +kernel
theorem tad_66 : decode method_3_code 66 = .ok (.invokevirtual 26, 3) := by decide +kernel
theorem tad_69 : decode method_3_code 69 = .ok (.if_icmp .ne 479, 3) := by decide +kernel
theorem tad_72 : decode method_3_code 72 = .ok (.aload_n 0, 1) := by decide +kernel
theorem tad_73 : decode method_3_code 73 = .ok (.iload_n 1, 1) := by decide +kernel
theorem tad_74 : decode method_3_code 74 = .ok (.iconst 4, 1) := by decide +kernel
theorem tad_75 : decode method_3_code 75 = .ok (.iadd, 1) := by decide +kernel
theorem tad_76 : decode method_3_code 76 = .ok (.invokevirtual 26, 3) := by decide +kernel
theorem tad_79 : decode method_3_code 79 = .ok (.aload_n 2, 1) := by decide +kernel
theorem tad_80 : decode method_3_code 80 = .ok (.iconst 4, 1) := by decide +kernel
theorem tad_81 : decode method_3_code 81 = .ok (.invokevirtual 26, 3) := by decide +kernel
theorem tad_84 : decode method_3_code 84 = .ok (.if_icmp .ne 464, 3) := by decide +kernel
theorem tad_87 : decode method_3_code 87 = .ok (.aload_n 0, 1) := by decide +kernel
theorem tad_88 : decode method_3_code 88 = .ok (.iload_n 1, 1) := by decide +kernel
theorem tad_89 : decode method_3_code 89 = .ok (.iconst 5, 1) := by decide +kernel
theorem tad_90 : decode method_3_code 90 = .ok (.iadd, 1) := by decide +kernel
theorem tad_91 : decode method_3_code 91 = .ok (.invokevirtual 26, 3) := by decide +kernel
theorem tad_94 : decode method_3_code 94 = .ok (.aload_n 2, 1) := by decide +kernel
theorem tad_95 : decode method_3_code 95 = .ok (.iconst 5, 1) := by decide +kernel
theorem tad_96 : decode method_3_code 96 = .ok (.invokevirtual 26, 3) := by decide +kernel
theorem tad_99 : decode method_3_code 99 = .ok (.if_icmp .ne 449, 3) := by decide +kernel
theorem tad_102 : decode method_3_code 102 = .ok (.aload_n 0, 1) := by decide +kernel
theorem tad_103 : decode method_3_code 103 = .ok (.iload_n 1, 1) := by decide +kernel
theorem tad_104 : decode method_3_code 104 = .ok (.bipush 6, 2) := by decide +kernel
theorem tad_106 : decode method_3_code 106 = .ok (.iadd, 1) := by decide +kernel
theorem tad_107 : decode method_3_code 107 = .ok (.invokevirtual 26, 3) := by decide +kernel
theorem tad_110 : decode method_3_code 110 = .ok (.aload_n 2, 1) := by decide +kernel
theorem tad_111 : decode method_3_code 111 = .ok (.bipush 6, 2) := by decide +kernel
theorem tad_113 : decode method_3_code 113 = .ok (.invokevirtual 26, 3) := by decide +kernel
theorem tad_116 : decode method_3_code 116 = .ok (.if_icmp .ne 432, 3) := by decide +kernel
theorem tad_119 : decode method_3_code 119 = .ok (.aload_n 0, 1) := by decide +kernel
theorem tad_120 : decode method_3_code 120 = .ok (.iload_n 1, 1) := by decide +kernel
theorem tad_121 : decode method_3_code 121 = .ok (.bipush 7, 2) := by decide +kernel
theorem tad_123 : decode method_3_code 123 = .ok (.iadd, 1) := by decide +kernel
theorem tad_124 : decode method_3_code 124 = .ok (.invokevirtual 26, 3) := by decide +kernel
theorem tad_127 : decode method_3_code 127 = .ok (.aload_n 2, 1) := by decide +kernel
theorem tad_128 : decode method_3_code 128 = .ok (.bipush 7, 2) := by decide +kernel
theorem tad_130 : decode method_3_code 130 = .ok (.invokevirtual 26, 3) := by decide +kernel
theorem tad_133 : decode method_3_code 133 = .ok (.if_icmp .ne 415, 3) := by decide +kernel
theorem tad_136 : decode method_3_code 136 = .ok (.aload_n 0, 1) := by decide +kernel
theorem tad_137 : decode method_3_code 137 = .ok (.iload_n 1, 1) := by decide +kernel
theorem tad_138 : decode method_3_code 138 = .ok (.bipush 8, 2) := by decide +kernel
theorem tad_140 : decode method_3_code 140 = .ok (.iadd, 1) := by decide +kernel
theorem tad_141 : decode method_3_code 141 = .ok (.invokevirtual 26, 3) := by decide +kernel
theorem tad_144 : decode method_3_code 144 = .ok (.aload_n 2, 1) := by decide +kernel
theorem tad_145 : decode method_3_code 145 = .ok (.bipush 8, 2) := by decide +kernel
theorem tad_147 : decode method_3_code 147 = .ok (.invokevirtual 26, 3) := by decide +kernel
theorem tad_150 : decode method_3_code 150 = .ok (.if_icmp .ne 398, 3) := by decide +kernel
theorem tad_153 : decode method_3_code 153 = .ok (.aload_n 0, 1) := by decide +kernel
theorem tad_154 : decode method_3_code 154 = .ok (.iload_n 1, 1) := by decide +kernel
theorem tad_155 : decode method_3_code 155 = .ok (.bipush 9, 2) := by decide +kernel
theorem tad_157 : decode method_3_code 157 = .ok (.iadd, 1) := by decide +kernel
theorem tad_158 : decode method_3_code 158 = .ok (.invokevirtual 26, 3) := by decide +kernel
theorem tad_161 : decode method_3_code 161 = .ok (.aload_n 2, 1) := by decide +kernel
theorem tad_162 : decode method_3_code 162 = .ok (.bipush 9, 2) := by decide +kernel
theorem tad_164 : decode method_3_code 164 = .ok (.invokevirtual 26, 3) := by decide +kernel
theorem tad_167 : decode method_3_code 167 = .ok (.if_icmp .ne 381, 3) := by decide +kernel
theorem tad_170 : decode method_3_code 170 = .ok (.aload_n 0, 1) := by decide +kernel
theorem tad_171 : decode method_3_code 171 = .ok (.iload_n 1, 1) := by decide +kernel
theorem tad_172 : decode method_3_code 172 = .ok (.bipush 10, 2) := by decide +kernel
theorem tad_174 : decode method_3_code 174 = .ok (.iadd, 1) := by decide +kernel
theorem tad_175 : decode method_3_code 175 = .ok (.invokevirtual 26, 3) := by decide +kernel
theorem tad_178 : decode method_3_code 178 = .ok (.aload_n 2, 1) := by decide +kernel
theorem tad_179 : decode method_3_code 179 = .ok (.bipush 10, 2) := by decide +kernel
theorem tad_181 : decode method_3_code 181 = .ok (.invokevirtual 26, 3) := by decide +kernel
theorem tad_184 : decode method_3_code 184 = .ok (.if_icmp .ne 364, 3) := by decide +kernel
theorem tad_187 : decode method_3_code 187 = .ok (.aload_n 0, 1) := by decide +kernel
theorem tad_188 : decode method_3_code 188 = .ok (.iload_n 1, 1) := by decide +kernel
theorem tad_189 : decode method_3_code 189 = .ok (.bipush 11, 2) := by decide +kernel
theorem tad_191 : decode method_3_code 191 = .ok (.iadd, 1) := by decide +kernel
theorem tad_192 : decode method_3_code 192 = .ok (.invokevirtual 26, 3) := by decide +kernel
theorem tad_195 : decode method_3_code 195 = .ok (.aload_n 2, 1) := by decide +kernel
theorem tad_196 : decode method_3_code 196 = .ok (.bipush 11, 2) := by decide +kernel
theorem tad_198 : decode method_3_code 198 = .ok (.invokevirtual 26, 3) := by decide +kernel
theorem tad_201 : decode method_3_code 201 = .ok (.if_icmp .ne 347, 3) := by decide +kernel
theorem tad_204 : decode method_3_code 204 = .ok (.aload_n 0, 1) := by decide +kernel
theorem tad_205 : decode method_3_code 205 = .ok (.iload_n 1, 1) := by decide +kernel
theorem tad_206 : decode method_3_code 206 = .ok (.bipush 12, 2) := by decide +kernel
theorem tad_208 : decode method_3_code 208 = .ok (.iadd, 1) := by decide +kernel
theorem tad_209 : decode method_3_code 209 = .ok (.invokevirtual 26, 3) := by decide +kernel
theorem tad_212 : decode method_3_code 212 = .ok (.aload_n 2, 1) := by decide +kernel
theorem tad_213 : decode method_3_code 213 = .ok (.bipush 12, 2) := by decide +kernel
theorem tad_215 : decode method_3_code 215 = .ok (.invokevirtual 26, 3) := by decide +kernel
theorem tad_218 : decode method_3_code 218 = .ok (.if_icmp .ne 330, 3) := by decide +kernel
theorem tad_221 : decode method_3_code 221 = .ok (.aload_n 0, 1) := by decide +kernel
theorem tad_222 : decode method_3_code 222 = .ok (.iload_n 1, 1) := by decide +kernel
theorem tad_223 : decode method_3_code 223 = .ok (.bipush 13, 2) := by decide +kernel
theorem tad_225 : decode method_3_code 225 = .ok (.iadd, 1) := by decide +kernel
theorem tad_226 : decode method_3_code 226 = .ok (.invokevirtual 26, 3) := by decide +kernel
theorem tad_229 : decode method_3_code 229 = .ok (.aload_n 2, 1) := by decide +kernel
theorem tad_230 : decode method_3_code 230 = .ok (.bipush 13, 2) := by decide +kernel
theorem tad_232 : decode method_3_code 232 = .ok (.invokevirtual 26, 3) := by decide +kernel
theorem tad_235 : decode method_3_code 235 = .ok (.if_icmp .ne 313, 3) := by decide +kernel
theorem tad_238 : decode method_3_code 238 = .ok (.aload_n 0, 1) := by decide +kernel
theorem tad_239 : decode method_3_code 239 = .ok (.iload_n 1, 1) := by decide +kernel
theorem tad_240 : decode method_3_code 240 = .ok (.bipush 14, 2) := by decide +kernel
theorem tad_242 : decode method_3_code 242 = .ok (.iadd, 1) := by decide +kernel
theorem tad_243 : decode method_3_code 243 = .ok (.invokevirtual 26, 3) := by decide +kernel
theorem tad_246 : decode method_3_code 246 = .ok (.aload_n 2, 1) := by decide +kernel
theorem tad_247 : decode method_3_code 247 = .ok (.bipush 14, 2) := by decide +kernel
theorem tad_249 : decode method_3_code 249 = .ok (.invokevirtual 26, 3) := by decide +kernel
theorem tad_252 : decode method_3_code 252 = .ok (.if_icmp .ne 296, 3) := by decide +kernel
theorem tad_255 : decode method_3_code 255 = .ok (.aload_n 0, 1) := by decide +kernel
theorem tad_256 : decode method_3_code 256 = .ok (.iload_n 1, 1) := by decide +kernel
theorem tad_257 : decode method_3_code 257 = .ok (.bipush 15, 2) := by decide +kernel
theorem tad_259 : decode method_3_code 259 = .ok (.iadd, 1) := by decide +kernel
theorem tad_260 : decode method_3_code 260 = .ok (.invokevirtual 26, 3) := by decide +kernel
theorem tad_263 : decode method_3_code 263 = .ok (.aload_n 2, 1) := by decide +kernel
theorem tad_264 : decode method_3_code 264 = .ok (.bipush 15, 2) := by decide +kernel
theorem tad_266 : decode method_3_code 266 = .ok (.invokevirtual 26, 3) := by decide +kernel
theorem tad_269 : decode method_3_code 269 = .ok (.if_icmp .ne 279, 3) := by decide +kernel
theorem tad_272 : decode method_3_code 272 = .ok (.aload_n 0, 1) := by decide +kernel
theorem tad_273 : decode method_3_code 273 = .ok (.iload_n 1, 1) := by decide +kernel
theorem tad_274 : decode method_3_code 274 = .ok (.bipush 16, 2) := by decide +kernel
theorem tad_276 : decode method_3_code 276 = .ok (.iadd, 1) := by decide +kernel
theorem tad_277 : decode method_3_code 277 = .ok (.invokevirtual 26, 3) := by decide +kernel
theorem tad_280 : decode method_3_code 280 = .ok (.aload_n 2, 1) := by decide +kernel
theorem tad_281 : decode method_3_code 281 = .ok (.bipush 16, 2) := by decide +kernel
theorem tad_283 : decode method_3_code 283 = .ok (.invokevirtual 26, 3) := by decide +kernel
theorem tad_286 : decode method_3_code 286 = .ok (.if_icmp .ne 262, 3) := by decide +kernel
theorem tad_289 : decode method_3_code 289 = .ok (.aload_n 0, 1) := by decide +kernel
theorem tad_290 : decode method_3_code 290 = .ok (.iload_n 1, 1) := by decide +kernel
theorem tad_291 : decode method_3_code 291 = .ok (.bipush 17, 2) := by decide +kernel
theorem tad_293 : decode method_3_code 293 = .ok (.iadd, 1) := by decide +kernel
theorem tad_294 : decode method_3_code 294 = .ok (.invokevirtual 26, 3) := by decide +kernel
theorem tad_297 : decode method_3_code 297 = .ok (.aload_n 2, 1) := by decide +kernel
theorem tad_298 : decode method_3_code 298 = .ok (.bipush 17, 2) := by decide +kernel
theorem tad_300 : decode method_3_code 300 = .ok (.invokevirtual 26, 3) := by decide +kernel
theorem tad_303 : decode method_3_code 303 = .ok (.if_icmp .ne 245, 3) := by decide +kernel
theorem tad_306 : decode method_3_code 306 = .ok (.aload_n 0, 1) := by decide +kernel
theorem tad_307 : decode method_3_code 307 = .ok (.iload_n 1, 1) := by decide +kernel
theorem tad_308 : decode method_3_code 308 = .ok (.bipush 18, 2) := by decide +kernel
theorem tad_310 : decode method_3_code 310 = .ok (.iadd, 1) := by decide +kernel
theorem tad_311 : decode method_3_code 311 = .ok (.invokevirtual 26, 3) := by decide +kernel
theorem tad_314 : decode method_3_code 314 = .ok (.aload_n 2, 1) := by decide +kernel
theorem tad_315 : decode method_3_code 315 = .ok (.bipush 18, 2) := by decide +kernel
theorem tad_317 : decode method_3_code 317 = .ok (.invokevirtual 26, 3) := by decide +kernel
theorem tad_320 : decode method_3_code 320 = .ok (.if_icmp .ne 228, 3) := by decide +kernel
theorem tad_323 : decode method_3_code 323 = .ok (.aload_n 0, 1) := by decide +kernel
theorem tad_324 : decode method_3_code 324 = .ok (.iload_n 1, 1) := by decide +kernel
theorem tad_325 : decode method_3_code 325 = .ok (.bipush 19, 2) := by decide +kernel
theorem tad_327 : decode method_3_code 327 = .ok (.iadd, 1) := by decide +kernel
theorem tad_328 : decode method_3_code 328 = .ok (.invokevirtual 26, 3) := by decide +kernel
theorem tad_331 : decode method_3_code 331 = .ok (.aload_n 2, 1) := by decide +kernel
theorem tad_332 : decode method_3_code 332 = .ok (.bipush 19, 2) := by decide +kernel
theorem tad_334 : decode method_3_code 334 = .ok (.invokevirtual 26, 3) := by decide +kernel
theorem tad_337 : decode method_3_code 337 = .ok (.if_icmp .ne 211, 3) := by decide +kernel
theorem tad_340 : decode method_3_code 340 = .ok (.aload_n 0, 1) := by decide +kernel
theorem tad_341 : decode method_3_code 341 = .ok (.iload_n 1, 1) := by decide +kernel
theorem tad_342 : decode method_3_code 342 = .ok (.bipush 20, 2) := by decide +kernel
theorem tad_344 : decode method_3_code 344 = .ok (.iadd, 1) := by decide +kernel
theorem tad_345 : decode method_3_code 345 = .ok (.invokevirtual 26, 3) := by decide +kernel
theorem tad_348 : decode method_3_code 348 = .ok (.aload_n 2, 1) := by decide +kernel
theorem tad_349 : decode method_3_code 349 = .ok (.bipush 20, 2) := by decide +kernel
theorem tad_351 : decode method_3_code 351 = .ok (.invokevirtual 26, 3) := by decide +kernel
theorem tad_354 : decode method_3_code 354 = .ok (.if_icmp .ne 194, 3) := by decide +kernel
theorem tad_357 : decode method_3_code 357 = .ok (.aload_n 0, 1) := by decide +kernel
theorem tad_358 : decode method_3_code 358 = .ok (.iload_n 1, 1) := by decide +kernel
theorem tad_359 : decode method_3_code 359 = .ok (.bipush 21, 2) := by decide +kernel
theorem tad_361 : decode method_3_code 361 = .ok (.iadd, 1) := by decide +kernel
theorem tad_362 : decode method_3_code 362 = .ok (.invokevirtual 26, 3) := by decide +kernel
theorem tad_365 : decode method_3_code 365 = .ok (.aload_n 2, 1) := by decide +kernel
theorem tad_366 : decode method_3_code 366 = .ok (.bipush 21, 2) := by decide +kernel
theorem tad_368 : decode method_3_code 368 = .ok (.invokevirtual 26, 3) := by decide +kernel
theorem tad_371 : decode method_3_code 371 = .ok (.if_icmp .ne 177, 3) := by decide +kernel
theorem tad_374 : decode method_3_code 374 = .ok (.aload_n 0, 1) := by decide +kernel
theorem tad_375 : decode method_3_code 375 = .ok (.iload_n 1, 1) := by decide +kernel
theorem tad_376 : decode method_3_code 376 = .ok (.bipush 22, 2) := by decide +kernel
theorem tad_378 : decode method_3_code 378 = .ok (.iadd, 1) := by decide +kernel
theorem tad_379 : decode method_3_code 379 = .ok (.invokevirtual 26, 3) := by decide +kernel
theorem tad_382 : decode method_3_code 382 = .ok (.aload_n 2, 1) := by decide +kernel
theorem tad_383 : decode method_3_code 383 = .ok (.bipush 22, 2) := by decide +kernel
theorem tad_385 : decode method_3_code 385 = .ok (.invokevirtual 26, 3) := by decide +kernel
theorem tad_388 : decode method_3_code 388 = .ok (.if_icmp .ne 160, 3) := by decide +kernel
theorem tad_391 : decode method_3_code 391 = .ok (.aload_n 0, 1) := by decide +kernel
theorem tad_392 : decode method_3_code 392 = .ok (.iload_n 1, 1) := by decide +kernel
theorem tad_393 : decode method_3_code 393 = .ok (.bipush 23, 2) := by decide +kernel
theorem tad_395 : decode method_3_code 395 = .ok (.iadd, 1) := by decide +kernel
theorem tad_396 : decode method_3_code 396 = .ok (.invokevirtual 26, 3) := by decide +kernel
theorem tad_399 : decode method_3_code 399 = .ok (.aload_n 2, 1) := by decide +kernel
theorem tad_400 : decode method_3_code 400 = .ok (.bipush 23, 2) := by decide +kernel
theorem tad_402 : decode method_3_code 402 = .ok (.invokevirtual 26, 3) := by decide +kernel
theorem tad_405 : decode method_3_code 405 = .ok (.if_icmp .ne 143, 3) := by decide +kernel
theorem tad_408 : decode method_3_code 408 = .ok (.aload_n 0, 1) := by decide +kernel
theorem tad_409 : decode method_3_code 409 = .ok (.iload_n 1, 1) := by decide +kernel
theorem tad_410 : decode method_3_code 410 = .ok (.bipush 24, 2) := by decide +kernel
theorem tad_412 : decode method_3_code 412 = .ok (.iadd, 1) := by decide +kernel
theorem tad_413 : decode method_3_code 413 = .ok (.invokevirtual 26, 3) := by decide +kernel
theorem tad_416 : decode method_3_code 416 = .ok (.aload_n 2, 1) := by decide +kernel
theorem tad_417 : decode method_3_code 417 = .ok (.bipush 24, 2) := by decide +kernel
theorem tad_419 : decode method_3_code 419 = .ok (.invokevirtual 26, 3) := by decide +kernel
theorem tad_422 : decode method_3_code 422 = .ok (.if_icmp .ne 126, 3) := by decide +kernel
theorem tad_425 : decode method_3_code 425 = .ok (.aload_n 0, 1) := by decide +kernel
theorem tad_426 : decode method_3_code 426 = .ok (.iload_n 1, 1) := by decide +kernel
theorem tad_427 : decode method_3_code 427 = .ok (.bipush 25, 2) := by decide +kernel
theorem tad_429 : decode method_3_code 429 = .ok (.iadd, 1) := by decide +kernel
theorem tad_430 : decode method_3_code 430 = .ok (.invokevirtual 26, 3) := by decide +kernel
theorem tad_433 : decode method_3_code 433 = .ok (.aload_n 2, 1) := by decide +kernel
theorem tad_434 : decode method_3_code 434 = .ok (.bipush 25, 2) := by decide +kernel
theorem tad_436 : decode method_3_code 436 = .ok (.invokevirtual 26, 3) := by decide +kernel
theorem tad_439 : decode method_3_code 439 = .ok (.if_icmp .ne 109, 3) := by decide +kernel
theorem tad_442 : decode method_3_code 442 = .ok (.aload_n 0, 1) := by decide +kernel
theorem tad_443 : decode method_3_code 443 = .ok (.iload_n 1, 1) := by decide +kernel
theorem tad_444 : decode method_3_code 444 = .ok (.bipush 26, 2) := by decide +kernel
theorem tad_446 : decode method_3_code 446 = .ok (.iadd, 1) := by decide +kernel
theorem tad_447 : decode method_3_code 447 = .ok (.invokevirtual 26, 3) := by decide +kernel
theorem tad_450 : decode method_3_code 450 = .ok (.aload_n 2, 1) := by decide +kernel
theorem tad_451 : decode method_3_code 451 = .ok (.bipush 26, 2) := by decide +kernel
theorem tad_453 : decode method_3_code 453 = .ok (.invokevirtual 26, 3) := by decide +kernel
theorem tad_456 : decode method_3_code 456 = .ok (.if_icmp .ne 92, 3) := by decide +kernel
theorem tad_459 : decode method_3_code 459 = .ok (.aload_n 0, 1) := by decide +kernel
theorem tad_460 : decode method_3_code 460 = .ok (.iload_n 1, 1) := by decide +kernel
theorem tad_461 : decode method_3_code 461 = .ok (.bipush 27, 2) := by decide +kernel
theorem tad_463 : decode method_3_code 463 = .ok (.iadd, 1) := by decide +kernel
theorem tad_464 : decode method_3_code 464 = .ok (.invokevirtual 26, 3) := by decide +kernel
theorem tad_467 : decode method_3_code 467 = .ok (.aload_n 2, 1) := by decide +kernel
theorem tad_468 : decode method_3_code 468 = .ok (.bipush 27, 2) := by decide +kernel
theorem tad_470 : decode method_3_code 470 = .ok (.invokevirtual 26, 3) := by decide +kernel
theorem tad_473 : decode method_3_code 473 = .ok (.if_icmp .ne 75, 3) := by decide +kernel
theorem tad_476 : decode method_3_code 476 = .ok (.aload_n 0, 1) := by decide +kernel
theorem tad_477 : decode method_3_code 477 = .ok (.iload_n 1, 1) := by decide +kernel
theorem tad_478 : decode method_3_code 478 = .ok (.bipush 28, 2) := by decide +kernel
theorem tad_480 : decode method_3_code 480 = .ok (.iadd, 1) := by decide +kernel
theorem tad_481 : decode method_3_code 481 = .ok (.invokevirtual 26, 3) := by decide +kernel
theorem tad_484 : decode method_3_code 484 = .ok (.aload_n 2, 1) := by decide +kernel
theorem tad_485 : decode method_3_code 485 = .ok (.bipush 28, 2) := by decide +kernel
theorem tad_487 : decode method_3_code 487 = .ok (.invokevirtual 26, 3) := by decide +kernel
theorem tad_490 : decode method_3_code 490 = .ok (.if_icmp .ne 58, 3) := by decide +kernel
theorem tad_493 : decode method_3_code 493 = .ok (.aload_n 0, 1) := by decide +kernel
theorem tad_494 : decode method_3_code 494 = .ok (.iload_n 1, 1) := by decide +kernel
theorem tad_495 : decode method_3_code 495 = .ok (.bipush 29, 2) := by decide +kernel
theorem tad_497 : decode method_3_code 497 = .ok (.iadd, 1) := by decide +kernel
theorem tad_498 : decode method_3_code 498 = .ok (.invokevirtual 26, 3) := by decide +kernel
theorem tad_501 : decode method_3_code 501 = .ok (.aload_n 2, 1) := by decide +kernel
theorem tad_502 : decode method_3_code 502 = .ok (.bipush 29, 2) := by decide +kernel
theorem tad_504 : decode method_3_code 504 = .ok (.invokevirtual 26, 3) := by decide +kernel
theorem tad_507 : decode method_3_code 507 = .ok (.if_icmp .ne 41, 3) := by decide +kernel
theorem tad_510 : decode method_3_code 510 = .ok (.aload_n 0, 1) := by decide +kernel
theorem tad_511 : decode method_3_code 511 = .ok (.iload_n 1, 1) := by decide +kernel
theorem tad_512 : decode method_3_code 512 = .ok (.bipush 30, 2) := by decide +kernel
theorem tad_514 : decode method_3_code 514 = .ok (.iadd, 1) := by decide +kernel
theorem tad_515 : decode method_3_code 515 = .ok (.invokevirtual 26, 3) := by decide +kernel
theorem tad_518 : decode method_3_code 518 = .ok (.aload_n 2, 1) := by decide +kernel
theorem tad_519 : decode method_3_code 519 = .ok (.bipush 30, 2) := by decide +kernel
theorem tad_521 : decode method_3_code 521 = .ok (.invokevirtual 26, 3) := by decide +kernel
theorem tad_524 : decode method_3_code 524 = .ok (.if_icmp .ne 24, 3) := by decide +kernel
theorem tad_527 : decode method_3_code 527 = .ok (.aload_n 0, 1) := by decide +kernel
theorem tad_528 : decode method_3_code 528 = .ok (.iload_n 1, 1) := by decide +kernel
theorem tad_529 : decode method_3_code 529 = .ok (.bipush 31, 2) := by decide +kernel
theorem tad_531 : decode method_3_code 531 = .ok (.iadd, 1) := by decide +kernel
theorem tad_532 : decode method_3_code 532 = .ok (.invokevirtual 26, 3) := by decide +kernel
theorem tad_535 : decode method_3_code 535 = .ok (.aload_n 2, 1) := by decide +kernel
theorem tad_536 : decode method_3_code 536 = .ok (.bipush 31, 2) := by decide +kernel
theorem tad_538 : decode method_3_code 538 = .ok (.invokevirtual 26, 3) := by decide +kernel
theorem tad_541 : decode method_3_code 541 = .ok (.if_icmp .ne 7, 3) := by decide +kernel
theorem tad_544 : decode method_3_code 544 = .ok (.iconst 1, 1) := by decide +kernel
theorem tad_545 : decode method_3_code 545 = .ok (.goto 4, 3) := by decide +kernel
theorem tad_549 : decode method_3_code 549 = .ok (.ireturn, 1) := by decide +kernel
set_option maxRecDepth 65536 in
set_option maxHeartbeats 40000000 in
theorem con_ta (l : Launch) {Z : State} {a0 : Array Value} {EL : List (String × Nat)} {h0 : Heap} (hw : ∀ d ∈ tables_1, d.before a0 Z = true) (hS : Sets Z) (hN : NW = false) (hmP : ("com/example/veneer/veneer/VeneerExceptionUnboundPinLaw", 36) ∈ EL) {ms : Addr} {nl : List Int32} (hl : Lat nl) (hn : nl.length ≤ 3) (S : Str Z h0 ms (nl ++ ([58, 32, 116, 104, 101, 32, 118, 97, 114, 105, 97, 98, 108, 101, 32, 104, 97, 115, 32, 110, 111, 32, 118, 97, 108, 117, 101, 32, 104, 101, 114, 101] : List Int32))) (O : Ext Z.heap h0) : Con l Z a0 EL svN false (⟨"com/example/veneer/veneer/VeneerExceptionUnboundPinLaw", "tail", "(Ljava/lang/String;I)Z"⟩ : MethodName) method_3_code 3 (some .boolean) ({ frames := 4, cells := 2, slots := 132, locals := 58 } : Room) [] [] #[(.ref ms), (.int (Int32.ofNat nl.length))] h0 (fun v _ => v = some (.int 1)) := by
  refine Con.enter (plainFor_of_name (by first | (simp [plainName, overriddenIn]; done) | decide +kernel)) O ?_
  intro p e s m below meth c T0 X0
  rw [show entryFrame m #[(.ref ms), (.int (Int32.ofNat nl.length))] 3 = (mkF m 0 #[.val (.ref ms), .val (.int (Int32.ofNat nl.length)), .unset] []) from by first | (simp [entryFrame, mkF, argsToLocals, Value.category]; done) | rfl]
  have hlm : ∀ c ∈ nl ++ ([58, 32, 116, 104, 101, 32, 118, 97, 114, 105, 97, 98, 108, 101, 32, 104, 97, 115, 32, 110, 111, 32, 118, 97, 108, 117, 101, 32, 104, 101, 114, 101] : List Int32), ¬ (255 : Int32) < c := fun c q => ((List.mem_append.mp q).elim (hl c) (latTX c)).2
  refine Run.ldcS hw hN X0 (cs := [(58 : Int32), (32 : Int32), (116 : Int32), (104 : Int32), (101 : Int32), (32 : Int32), (118 : Int32), (97 : Int32), (114 : Int32), (105 : Int32), (97 : Int32), (98 : Int32), (108 : Int32), (101 : Int32), (32 : Int32), (104 : Int32), (97 : Int32), (115 : Int32), (32 : Int32), (110 : Int32), (111 : Int32), (32 : Int32), (118 : Int32), (97 : Int32), (108 : Int32), (117 : Int32), (101 : Int32), (32 : Int32), (104 : Int32), (101 : Int32), (114 : Int32), (101 : Int32)]) (n := 128) (wd hw 225 rfl) hmP (by decide) (by decide) (by decide) tad_0 (by decide) (by decide) (Nat.le_of_ble_eq_true rfl) (Nat.le_of_ble_eq_true rfl) ?_
  intro a101 T101 h101 L101 X101 K101 S101
  show Run _ _ _ _ _ _ _ _ _ _ _ _ T101 (mkF m 2 #[.val (.ref ms), .val (.int (Int32.ofNat nl.length)), .unset] [(.ref a101)])
  have S1 := S.keep K101
  refine Run.via (fun _ => XS.astoreN X101.at X101.ex rfl (X101.de tad_2) rfl rfl (l' := #[.val (.ref ms), .val (.int (Int32.ofNat nl.length)), .val (.ref a101)]) rfl) ?_
  show Run _ _ _ _ _ _ _ _ _ _ _ _ T101 (mkF m 3 #[.val (.ref ms), .val (.int (Int32.ofNat nl.length)), .val (.ref a101)] [])
  refine Run.via (fun _ => XS.aloadN X101.at X101.ex rfl (X101.de tad_3) rfl rfl) ?_
  show Run _ _ _ _ _ _ _ _ _ _ _ _ T101 (mkF m 4 #[.val (.ref ms), .val (.int (Int32.ofNat nl.length)), .val (.ref a101)] [(.ref a101)])
  refine Run.slen hw hS X101 (W := 0) S101 (wd hw 220 rfl) (wd hw 57 rfl) (wd hw 58 rfl) (wd hw 59 rfl) (wd hw 1 rfl) tad_4 rfl (Nat.le_of_ble_eq_true rfl) (by decide) (by decide) (Nat.le_of_ble_eq_true rfl) (Nat.le_of_ble_eq_true rfl) ?_
  intro T102 X102
  show Run _ _ _ _ _ _ _ _ _ _ _ _ T102 (mkF m 7 #[.val (.ref ms), .val (.int (Int32.ofNat nl.length)), .val (.ref a101)] [(.int (32 : Int32))])
  refine Run.via (fun _ => XS.bipush X102.at X102.ex rfl (X102.de tad_7)) ?_
  show Run _ _ _ _ _ _ _ _ _ _ _ _ T102 (mkF m 9 #[.val (.ref ms), .val (.int (Int32.ofNat nl.length)), .val (.ref a101)] [(.int (32 : Int32)), (.int (32 : Int32))])
  refine Run.via (fun _ => XS.icmpYes X102.at X102.ex rfl (pc0 := 9) (pc' := 14) rfl (X102.de tad_9) rfl (teq (by decide : ((32 : Int32) = (32 : Int32)))).1 (by decide) (by decide)) ?_
  show Run _ _ _ _ _ _ _ _ _ _ _ _ T102 (mkF m 14 #[.val (.ref ms), .val (.int (Int32.ofNat nl.length)), .val (.ref a101)] [])
  refine Run.via (fun _ => XS.aloadN X102.at X102.ex rfl (X102.de tad_14) rfl rfl) ?_
  show Run _ _ _ _ _ _ _ _ _ _ _ _ T102 (mkF m 15 #[.val (.ref ms), .val (.int (Int32.ofNat nl.length)), .val (.ref a101)] [(.ref ms)])
  refine Run.via (fun _ => XS.iloadN X102.at X102.ex rfl (X102.de tad_15) rfl) ?_
  show Run _ _ _ _ _ _ _ _ _ _ _ _ T102 (mkF m 16 #[.val (.ref ms), .val (.int (Int32.ofNat nl.length)), .val (.ref a101)] [(.int (Int32.ofNat nl.length)), (.ref ms)])
  refine Run.sch hw hS X102 (W := 0) S1 hlm rfl (by rw [List.length_append]; show _ < _ + 32; omega) (wd hw 226 rfl) (wd hw 227 rfl) (wd hw 228 rfl) (wd hw 229 rfl) (wd hw 1 rfl) tad_16 rfl (Nat.le_of_ble_eq_true rfl) (by decide) (by decide) (Nat.le_of_ble_eq_true rfl) (Nat.le_of_ble_eq_true rfl) ?_
  intro T103 X103
  show Run _ _ _ _ _ _ _ _ _ _ _ _ T103 (mkF m 19 #[.val (.ref ms), .val (.int (Int32.ofNat nl.length)), .val (.ref a101)] [(.int ((nl ++ ([58, 32, 116, 104, 101, 32, 118, 97, 114, 105, 97, 98, 108, 101, 32, 104, 97, 115, 32, 110, 111, 32, 118, 97, 108, 117, 101, 32, 104, 101, 114, 101] : List Int32)).getD nl.length 0))])
  rw [show ((nl ++ ([58, 32, 116, 104, 101, 32, 118, 97, 114, 105, 97, 98, 108, 101, 32, 104, 97, 115, 32, 110, 111, 32, 118, 97, 108, 117, 101, 32, 104, 101, 114, 101] : List Int32)).getD nl.length 0) = (58 : Int32) from getD_app nl _ 0]
  show Run _ _ _ _ _ _ _ _ _ _ _ _ T103 (mkF m 19 #[.val (.ref ms), .val (.int (Int32.ofNat nl.length)), .val (.ref a101)] [(.int (58 : Int32))])
  refine Run.via (fun _ => XS.aloadN X103.at X103.ex rfl (X103.de tad_19) rfl rfl) ?_
  show Run _ _ _ _ _ _ _ _ _ _ _ _ T103 (mkF m 20 #[.val (.ref ms), .val (.int (Int32.ofNat nl.length)), .val (.ref a101)] [(.ref a101), (.int (58 : Int32))])
  refine Run.via (fun _ => XS.iconst X103.at X103.ex rfl (X103.de tad_20)) ?_
  show Run _ _ _ _ _ _ _ _ _ _ _ _ T103 (mkF m 21 #[.val (.ref ms), .val (.int (Int32.ofNat nl.length)), .val (.ref a101)] [(.int (0 : Int32)), (.ref a101), (.int (58 : Int32))])
  refine Run.sch hw hS X103 (W := 1) S101 (fun c q => (latTX c q).2) rfl (by decide) (wd hw 226 rfl) (wd hw 227 rfl) (wd hw 228 rfl) (wd hw 229 rfl) (wd hw 1 rfl) tad_21 rfl (Nat.le_of_ble_eq_true rfl) (by decide) (by decide) (Nat.le_of_ble_eq_true rfl) (Nat.le_of_ble_eq_true rfl) ?_
  intro T104 X104
  show Run _ _ _ _ _ _ _ _ _ _ _ _ T104 (mkF m 24 #[.val (.ref ms), .val (.int (Int32.ofNat nl.length)), .val (.ref a101)] [(.int (58 : Int32)), (.int (58 : Int32))])
  refine Run.via (fun _ => XS.icmpNo X104.at X104.ex rfl (X104.de tad_24) rfl (teq (by decide : ((58 : Int32) = (58 : Int32)))).2) ?_
  show Run _ _ _ _ _ _ _ _ _ _ _ _ T104 (mkF m 27 #[.val (.ref ms), .val (.int (Int32.ofNat nl.length)), .val (.ref a101)] [])
  refine Run.via (fun _ => XS.aloadN X104.at X104.ex rfl (X104.de tad_27) rfl rfl) ?_
  show Run _ _ _ _ _ _ _ _ _ _ _ _ T104 (mkF m 28 #[.val (.ref ms), .val (.int (Int32.ofNat nl.length)), .val (.ref a101)] [(.ref ms)])
  refine Run.via (fun _ => XS.iloadN X104.at X104.ex rfl (X104.de tad_28) rfl) ?_
  show Run _ _ _ _ _ _ _ _ _ _ _ _ T104 (mkF m 29 #[.val (.ref ms), .val (.int (Int32.ofNat nl.length)), .val (.ref a101)] [(.int (Int32.ofNat nl.length)), (.ref ms)])
  refine Run.via (fun _ => XS.iconst X104.at X104.ex rfl (X104.de tad_29)) ?_
  show Run _ _ _ _ _ _ _ _ _ _ _ _ T104 (mkF m 30 #[.val (.ref ms), .val (.int (Int32.ofNat nl.length)), .val (.ref a101)] [(.int (1 : Int32)), (.int (Int32.ofNat nl.length)), (.ref ms)])
  refine Run.via (fun _ => XS.iadd X104.at X104.ex rfl (X104.de tad_30) rfl) ?_
  show Run _ _ _ _ _ _ _ _ _ _ _ _ T104 (mkF m 31 #[.val (.ref ms), .val (.int (Int32.ofNat nl.length)), .val (.ref a101)] [(.int ((Int32.ofNat nl.length) + (1 : Int32))), (.ref ms)])
  rw [show ((Int32.ofNat nl.length) + (1 : Int32)) = (Int32.ofNat (nl.length + 1)) from i32add (b := 1) (by omega)]
  show Run _ _ _ _ _ _ _ _ _ _ _ _ T104 (mkF m 31 #[.val (.ref ms), .val (.int (Int32.ofNat nl.length)), .val (.ref a101)] [(.int (Int32.ofNat (nl.length + 1))), (.ref ms)])
  refine Run.sch hw hS X104 (W := 0) S1 hlm rfl (by rw [List.length_append]; show _ < _ + 32; omega) (wd hw 226 rfl) (wd hw 227 rfl) (wd hw 228 rfl) (wd hw 229 rfl) (wd hw 1 rfl) tad_31 rfl (Nat.le_of_ble_eq_true rfl) (by decide) (by decide) (Nat.le_of_ble_eq_true rfl) (Nat.le_of_ble_eq_true rfl) ?_
  intro T105 X105
  show Run _ _ _ _ _ _ _ _ _ _ _ _ T105 (mkF m 34 #[.val (.ref ms), .val (.int (Int32.ofNat nl.length)), .val (.ref a101)] [(.int ((nl ++ ([58, 32, 116, 104, 101, 32, 118, 97, 114, 105, 97, 98, 108, 101, 32, 104, 97, 115, 32, 110, 111, 32, 118, 97, 108, 117, 101, 32, 104, 101, 114, 101] : List Int32)).getD (nl.length + 1) 0))])
  rw [show ((nl ++ ([58, 32, 116, 104, 101, 32, 118, 97, 114, 105, 97, 98, 108, 101, 32, 104, 97, 115, 32, 110, 111, 32, 118, 97, 108, 117, 101, 32, 104, 101, 114, 101] : List Int32)).getD (nl.length + 1) 0) = (32 : Int32) from getD_app nl _ 1]
  show Run _ _ _ _ _ _ _ _ _ _ _ _ T105 (mkF m 34 #[.val (.ref ms), .val (.int (Int32.ofNat nl.length)), .val (.ref a101)] [(.int (32 : Int32))])
  refine Run.via (fun _ => XS.aloadN X105.at X105.ex rfl (X105.de tad_34) rfl rfl) ?_
  show Run _ _ _ _ _ _ _ _ _ _ _ _ T105 (mkF m 35 #[.val (.ref ms), .val (.int (Int32.ofNat nl.length)), .val (.ref a101)] [(.ref a101), (.int (32 : Int32))])
  refine Run.via (fun _ => XS.iconst X105.at X105.ex rfl (X105.de tad_35)) ?_
  show Run _ _ _ _ _ _ _ _ _ _ _ _ T105 (mkF m 36 #[.val (.ref ms), .val (.int (Int32.ofNat nl.length)), .val (.ref a101)] [(.int (1 : Int32)), (.ref a101), (.int (32 : Int32))])
  refine Run.sch hw hS X105 (W := 1) S101 (fun c q => (latTX c q).2) rfl (by decide) (wd hw 226 rfl) (wd hw 227 rfl) (wd hw 228 rfl) (wd hw 229 rfl) (wd hw 1 rfl) tad_36 rfl (Nat.le_of_ble_eq_true rfl) (by decide) (by decide) (Nat.le_of_ble_eq_true rfl) (Nat.le_of_ble_eq_true rfl) ?_
  intro T106 X106
  show Run _ _ _ _ _ _ _ _ _ _ _ _ T106 (mkF m 39 #[.val (.ref ms), .val (.int (Int32.ofNat nl.length)), .val (.ref a101)] [(.int (32 : Int32)), (.int (32 : Int32))])
  refine Run.via (fun _ => XS.icmpNo X106.at X106.ex rfl (X106.de tad_39) rfl (teq (by decide : ((32 : Int32) = (32 : Int32)))).2) ?_
  show Run _ _ _ _ _ _ _ _ _ _ _ _ T106 (mkF m 42 #[.val (.ref ms), .val (.int (Int32.ofNat nl.length)), .val (.ref a101)] [])
  refine Run.via (fun _ => XS.aloadN X106.at X106.ex rfl (X106.de tad_42) rfl rfl) ?_
  show Run _ _ _ _ _ _ _ _ _ _ _ _ T106 (mkF m 43 #[.val (.ref ms), .val (.int (Int32.ofNat nl.length)), .val (.ref a101)] [(.ref ms)])
  refine Run.via (fun _ => XS.iloadN X106.at X106.ex rfl (X106.de tad_43) rfl) ?_
  show Run _ _ _ _ _ _ _ _ _ _ _ _ T106 (mkF m 44 #[.val (.ref ms), .val (.int (Int32.ofNat nl.length)), .val (.ref a101)] [(.int (Int32.ofNat nl.length)), (.ref ms)])
  refine Run.via (fun _ => XS.iconst X106.at X106.ex rfl (X106.de tad_44)) ?_
  show Run _ _ _ _ _ _ _ _ _ _ _ _ T106 (mkF m 45 #[.val (.ref ms), .val (.int (Int32.ofNat nl.length)), .val (.ref a101)] [(.int (2 : Int32)), (.int (Int32.ofNat nl.length)), (.ref ms)])
  refine Run.via (fun _ => XS.iadd X106.at X106.ex rfl (X106.de tad_45) rfl) ?_
  show Run _ _ _ _ _ _ _ _ _ _ _ _ T106 (mkF m 46 #[.val (.ref ms), .val (.int (Int32.ofNat nl.length)), .val (.ref a101)] [(.int ((Int32.ofNat nl.length) + (2 : Int32))), (.ref ms)])
  rw [show ((Int32.ofNat nl.length) + (2 : Int32)) = (Int32.ofNat (nl.length + 2)) from i32add (b := 2) (by omega)]
  show Run _ _ _ _ _ _ _ _ _ _ _ _ T106 (mkF m 46 #[.val (.ref ms), .val (.int (Int32.ofNat nl.length)), .val (.ref a101)] [(.int (Int32.ofNat (nl.length + 2))), (.ref ms)])
  refine Run.sch hw hS X106 (W := 0) S1 hlm rfl (by rw [List.length_append]; show _ < _ + 32; omega) (wd hw 226 rfl) (wd hw 227 rfl) (wd hw 228 rfl) (wd hw 229 rfl) (wd hw 1 rfl) tad_46 rfl (Nat.le_of_ble_eq_true rfl) (by decide) (by decide) (Nat.le_of_ble_eq_true rfl) (Nat.le_of_ble_eq_true rfl) ?_
  intro T107 X107
  show Run _ _ _ _ _ _ _ _ _ _ _ _ T107 (mkF m 49 #[.val (.ref ms), .val (.int (Int32.ofNat nl.length)), .val (.ref a101)] [(.int ((nl ++ ([58, 32, 116, 104, 101, 32, 118, 97, 114, 105, 97, 98, 108, 101, 32, 104, 97, 115, 32, 110, 111, 32, 118, 97, 108, 117, 101, 32, 104, 101, 114, 101] : List Int32)).getD (nl.length + 2) 0))])
  rw [show ((nl ++ ([58, 32, 116, 104, 101, 32, 118, 97, 114, 105, 97, 98, 108, 101, 32, 104, 97, 115, 32, 110, 111, 32, 118, 97, 108, 117, 101, 32, 104, 101, 114, 101] : List Int32)).getD (nl.length + 2) 0) = (116 : Int32) from getD_app nl _ 2]
  show Run _ _ _ _ _ _ _ _ _ _ _ _ T107 (mkF m 49 #[.val (.ref ms), .val (.int (Int32.ofNat nl.length)), .val (.ref a101)] [(.int (116 : Int32))])
  refine Run.via (fun _ => XS.aloadN X107.at X107.ex rfl (X107.de tad_49) rfl rfl) ?_
  show Run _ _ _ _ _ _ _ _ _ _ _ _ T107 (mkF m 50 #[.val (.ref ms), .val (.int (Int32.ofNat nl.length)), .val (.ref a101)] [(.ref a101), (.int (116 : Int32))])
  refine Run.via (fun _ => XS.iconst X107.at X107.ex rfl (X107.de tad_50)) ?_
  show Run _ _ _ _ _ _ _ _ _ _ _ _ T107 (mkF m 51 #[.val (.ref ms), .val (.int (Int32.ofNat nl.length)), .val (.ref a101)] [(.int (2 : Int32)), (.ref a101), (.int (116 : Int32))])
  refine Run.sch hw hS X107 (W := 1) S101 (fun c q => (latTX c q).2) rfl (by decide) (wd hw 226 rfl) (wd hw 227 rfl) (wd hw 228 rfl) (wd hw 229 rfl) (wd hw 1 rfl) tad_51 rfl (Nat.le_of_ble_eq_true rfl) (by decide) (by decide) (Nat.le_of_ble_eq_true rfl) (Nat.le_of_ble_eq_true rfl) ?_
  intro T108 X108
  show Run _ _ _ _ _ _ _ _ _ _ _ _ T108 (mkF m 54 #[.val (.ref ms), .val (.int (Int32.ofNat nl.length)), .val (.ref a101)] [(.int (116 : Int32)), (.int (116 : Int32))])
  refine Run.via (fun _ => XS.icmpNo X108.at X108.ex rfl (X108.de tad_54) rfl (teq (by decide : ((116 : Int32) = (116 : Int32)))).2) ?_
  show Run _ _ _ _ _ _ _ _ _ _ _ _ T108 (mkF m 57 #[.val (.ref ms), .val (.int (Int32.ofNat nl.length)), .val (.ref a101)] [])
  refine Run.via (fun _ => XS.aloadN X108.at X108.ex rfl (X108.de tad_57) rfl rfl) ?_
  show Run _ _ _ _ _ _ _ _ _ _ _ _ T108 (mkF m 58 #[.val (.ref ms), .val (.int (Int32.ofNat nl.length)), .val (.ref a101)] [(.ref ms)])
  refine Run.via (fun _ => XS.iloadN X108.at X108.ex rfl (X108.de tad_58) rfl) ?_
  show Run _ _ _ _ _ _ _ _ _ _ _ _ T108 (mkF m 59 #[.val (.ref ms), .val (.int (Int32.ofNat nl.length)), .val (.ref a101)] [(.int (Int32.ofNat nl.length)), (.ref ms)])
  refine Run.via (fun _ => XS.iconst X108.at X108.ex rfl (X108.de tad_59)) ?_
  show Run _ _ _ _ _ _ _ _ _ _ _ _ T108 (mkF m 60 #[.val (.ref ms), .val (.int (Int32.ofNat nl.length)), .val (.ref a101)] [(.int (3 : Int32)), (.int (Int32.ofNat nl.length)), (.ref ms)])
  refine Run.via (fun _ => XS.iadd X108.at X108.ex rfl (X108.de tad_60) rfl) ?_
  show Run _ _ _ _ _ _ _ _ _ _ _ _ T108 (mkF m 61 #[.val (.ref ms), .val (.int (Int32.ofNat nl.length)), .val (.ref a101)] [(.int ((Int32.ofNat nl.length) + (3 : Int32))), (.ref ms)])
  rw [show ((Int32.ofNat nl.length) + (3 : Int32)) = (Int32.ofNat (nl.length + 3)) from i32add (b := 3) (by omega)]
  show Run _ _ _ _ _ _ _ _ _ _ _ _ T108 (mkF m 61 #[.val (.ref ms), .val (.int (Int32.ofNat nl.length)), .val (.ref a101)] [(.int (Int32.ofNat (nl.length + 3))), (.ref ms)])
  refine Run.sch hw hS X108 (W := 0) S1 hlm rfl (by rw [List.length_append]; show _ < _ + 32; omega) (wd hw 226 rfl) (wd hw 227 rfl) (wd hw 228 rfl) (wd hw 229 rfl) (wd hw 1 rfl) tad_61 rfl (Nat.le_of_ble_eq_true rfl) (by decide) (by decide) (Nat.le_of_ble_eq_true rfl) (Nat.le_of_ble_eq_true rfl) ?_
  intro T109 X109
  show Run _ _ _ _ _ _ _ _ _ _ _ _ T109 (mkF m 64 #[.val (.ref ms), .val (.int (Int32.ofNat nl.length)), .val (.ref a101)] [(.int ((nl ++ ([58, 32, 116, 104, 101, 32, 118, 97, 114, 105, 97, 98, 108, 101, 32, 104, 97, 115, 32, 110, 111, 32, 118, 97, 108, 117, 101, 32, 104, 101, 114, 101] : List Int32)).getD (nl.length + 3) 0))])
  rw [show ((nl ++ ([58, 32, 116, 104, 101, 32, 118, 97, 114, 105, 97, 98, 108, 101, 32, 104, 97, 115, 32, 110, 111, 32, 118, 97, 108, 117, 101, 32, 104, 101, 114, 101] : List Int32)).getD (nl.length + 3) 0) = (104 : Int32) from getD_app nl _ 3]
  show Run _ _ _ _ _ _ _ _ _ _ _ _ T109 (mkF m 64 #[.val (.ref ms), .val (.int (Int32.ofNat nl.length)), .val (.ref a101)] [(.int (104 : Int32))])
  refine Run.via (fun _ => XS.aloadN X109.at X109.ex rfl (X109.de tad_64) rfl rfl) ?_
  show Run _ _ _ _ _ _ _ _ _ _ _ _ T109 (mkF m 65 #[.val (.ref ms), .val (.int (Int32.ofNat nl.length)), .val (.ref a101)] [(.ref a101), (.int (104 : Int32))])
  refine Run.via (fun _ => XS.iconst X109.at X109.ex rfl (X109.de tad_65)) ?_
  show Run _ _ _ _ _ _ _ _ _ _ _ _ T109 (mkF m 66 #[.val (.ref ms), .val (.int (Int32.ofNat nl.length)), .val (.ref a101)] [(.int (3 : Int32)), (.ref a101), (.int (104 : Int32))])
  refine Run.sch hw hS X109 (W := 1) S101 (fun c q => (latTX c q).2) rfl (by decide) (wd hw 226 rfl) (wd hw 227 rfl) (wd hw 228 rfl) (wd hw 229 rfl) (wd hw 1 rfl) tad_66 rfl (Nat.le_of_ble_eq_true rfl) (by decide) (by decide) (Nat.le_of_ble_eq_true rfl) (Nat.le_of_ble_eq_true rfl) ?_
  intro T110 X110
  show Run _ _ _ _ _ _ _ _ _ _ _ _ T110 (mkF m 69 #[.val (.ref ms), .val (.int (Int32.ofNat nl.length)), .val (.ref a101)] [(.int (104 : Int32)), (.int (104 : Int32))])
  refine Run.via (fun _ => XS.icmpNo X110.at X110.ex rfl (X110.de tad_69) rfl (teq (by decide : ((104 : Int32) = (104 : Int32)))).2) ?_
  show Run _ _ _ _ _ _ _ _ _ _ _ _ T110 (mkF m 72 #[.val (.ref ms), .val (.int (Int32.ofNat nl.length)), .val (.ref a101)] [])
  refine Run.via (fun _ => XS.aloadN X110.at X110.ex rfl (X110.de tad_72) rfl rfl) ?_
  show Run _ _ _ _ _ _ _ _ _ _ _ _ T110 (mkF m 73 #[.val (.ref ms), .val (.int (Int32.ofNat nl.length)), .val (.ref a101)] [(.ref ms)])
  refine Run.via (fun _ => XS.iloadN X110.at X110.ex rfl (X110.de tad_73) rfl) ?_
  show Run _ _ _ _ _ _ _ _ _ _ _ _ T110 (mkF m 74 #[.val (.ref ms), .val (.int (Int32.ofNat nl.length)), .val (.ref a101)] [(.int (Int32.ofNat nl.length)), (.ref ms)])
  refine Run.via (fun _ => XS.iconst X110.at X110.ex rfl (X110.de tad_74)) ?_
  show Run _ _ _ _ _ _ _ _ _ _ _ _ T110 (mkF m 75 #[.val (.ref ms), .val (.int (Int32.ofNat nl.length)), .val (.ref a101)] [(.int (4 : Int32)), (.int (Int32.ofNat nl.length)), (.ref ms)])
  refine Run.via (fun _ => XS.iadd X110.at X110.ex rfl (X110.de tad_75) rfl) ?_
  show Run _ _ _ _ _ _ _ _ _ _ _ _ T110 (mkF m 76 #[.val (.ref ms), .val (.int (Int32.ofNat nl.length)), .val (.ref a101)] [(.int ((Int32.ofNat nl.length) + (4 : Int32))), (.ref ms)])
  rw [show ((Int32.ofNat nl.length) + (4 : Int32)) = (Int32.ofNat (nl.length + 4)) from i32add (b := 4) (by omega)]
  show Run _ _ _ _ _ _ _ _ _ _ _ _ T110 (mkF m 76 #[.val (.ref ms), .val (.int (Int32.ofNat nl.length)), .val (.ref a101)] [(.int (Int32.ofNat (nl.length + 4))), (.ref ms)])
  refine Run.sch hw hS X110 (W := 0) S1 hlm rfl (by rw [List.length_append]; show _ < _ + 32; omega) (wd hw 226 rfl) (wd hw 227 rfl) (wd hw 228 rfl) (wd hw 229 rfl) (wd hw 1 rfl) tad_76 rfl (Nat.le_of_ble_eq_true rfl) (by decide) (by decide) (Nat.le_of_ble_eq_true rfl) (Nat.le_of_ble_eq_true rfl) ?_
  intro T111 X111
  show Run _ _ _ _ _ _ _ _ _ _ _ _ T111 (mkF m 79 #[.val (.ref ms), .val (.int (Int32.ofNat nl.length)), .val (.ref a101)] [(.int ((nl ++ ([58, 32, 116, 104, 101, 32, 118, 97, 114, 105, 97, 98, 108, 101, 32, 104, 97, 115, 32, 110, 111, 32, 118, 97, 108, 117, 101, 32, 104, 101, 114, 101] : List Int32)).getD (nl.length + 4) 0))])
  rw [show ((nl ++ ([58, 32, 116, 104, 101, 32, 118, 97, 114, 105, 97, 98, 108, 101, 32, 104, 97, 115, 32, 110, 111, 32, 118, 97, 108, 117, 101, 32, 104, 101, 114, 101] : List Int32)).getD (nl.length + 4) 0) = (101 : Int32) from getD_app nl _ 4]
  show Run _ _ _ _ _ _ _ _ _ _ _ _ T111 (mkF m 79 #[.val (.ref ms), .val (.int (Int32.ofNat nl.length)), .val (.ref a101)] [(.int (101 : Int32))])
  refine Run.via (fun _ => XS.aloadN X111.at X111.ex rfl (X111.de tad_79) rfl rfl) ?_
  show Run _ _ _ _ _ _ _ _ _ _ _ _ T111 (mkF m 80 #[.val (.ref ms), .val (.int (Int32.ofNat nl.length)), .val (.ref a101)] [(.ref a101), (.int (101 : Int32))])
  refine Run.via (fun _ => XS.iconst X111.at X111.ex rfl (X111.de tad_80)) ?_
  show Run _ _ _ _ _ _ _ _ _ _ _ _ T111 (mkF m 81 #[.val (.ref ms), .val (.int (Int32.ofNat nl.length)), .val (.ref a101)] [(.int (4 : Int32)), (.ref a101), (.int (101 : Int32))])
  refine Run.sch hw hS X111 (W := 1) S101 (fun c q => (latTX c q).2) rfl (by decide) (wd hw 226 rfl) (wd hw 227 rfl) (wd hw 228 rfl) (wd hw 229 rfl) (wd hw 1 rfl) tad_81 rfl (Nat.le_of_ble_eq_true rfl) (by decide) (by decide) (Nat.le_of_ble_eq_true rfl) (Nat.le_of_ble_eq_true rfl) ?_
  intro T112 X112
  show Run _ _ _ _ _ _ _ _ _ _ _ _ T112 (mkF m 84 #[.val (.ref ms), .val (.int (Int32.ofNat nl.length)), .val (.ref a101)] [(.int (101 : Int32)), (.int (101 : Int32))])
  refine Run.via (fun _ => XS.icmpNo X112.at X112.ex rfl (X112.de tad_84) rfl (teq (by decide : ((101 : Int32) = (101 : Int32)))).2) ?_
  show Run _ _ _ _ _ _ _ _ _ _ _ _ T112 (mkF m 87 #[.val (.ref ms), .val (.int (Int32.ofNat nl.length)), .val (.ref a101)] [])
  refine Run.via (fun _ => XS.aloadN X112.at X112.ex rfl (X112.de tad_87) rfl rfl) ?_
  show Run _ _ _ _ _ _ _ _ _ _ _ _ T112 (mkF m 88 #[.val (.ref ms), .val (.int (Int32.ofNat nl.length)), .val (.ref a101)] [(.ref ms)])
  refine Run.via (fun _ => XS.iloadN X112.at X112.ex rfl (X112.de tad_88) rfl) ?_
  show Run _ _ _ _ _ _ _ _ _ _ _ _ T112 (mkF m 89 #[.val (.ref ms), .val (.int (Int32.ofNat nl.length)), .val (.ref a101)] [(.int (Int32.ofNat nl.length)), (.ref ms)])
  refine Run.via (fun _ => XS.iconst X112.at X112.ex rfl (X112.de tad_89)) ?_
  show Run _ _ _ _ _ _ _ _ _ _ _ _ T112 (mkF m 90 #[.val (.ref ms), .val (.int (Int32.ofNat nl.length)), .val (.ref a101)] [(.int (5 : Int32)), (.int (Int32.ofNat nl.length)), (.ref ms)])
  refine Run.via (fun _ => XS.iadd X112.at X112.ex rfl (X112.de tad_90) rfl) ?_
  show Run _ _ _ _ _ _ _ _ _ _ _ _ T112 (mkF m 91 #[.val (.ref ms), .val (.int (Int32.ofNat nl.length)), .val (.ref a101)] [(.int ((Int32.ofNat nl.length) + (5 : Int32))), (.ref ms)])
  rw [show ((Int32.ofNat nl.length) + (5 : Int32)) = (Int32.ofNat (nl.length + 5)) from i32add (b := 5) (by omega)]
  show Run _ _ _ _ _ _ _ _ _ _ _ _ T112 (mkF m 91 #[.val (.ref ms), .val (.int (Int32.ofNat nl.length)), .val (.ref a101)] [(.int (Int32.ofNat (nl.length + 5))), (.ref ms)])
  refine Run.sch hw hS X112 (W := 0) S1 hlm rfl (by rw [List.length_append]; show _ < _ + 32; omega) (wd hw 226 rfl) (wd hw 227 rfl) (wd hw 228 rfl) (wd hw 229 rfl) (wd hw 1 rfl) tad_91 rfl (Nat.le_of_ble_eq_true rfl) (by decide) (by decide) (Nat.le_of_ble_eq_true rfl) (Nat.le_of_ble_eq_true rfl) ?_
  intro T113 X113
  show Run _ _ _ _ _ _ _ _ _ _ _ _ T113 (mkF m 94 #[.val (.ref ms), .val (.int (Int32.ofNat nl.length)), .val (.ref a101)] [(.int ((nl ++ ([58, 32, 116, 104, 101, 32, 118, 97, 114, 105, 97, 98, 108, 101, 32, 104, 97, 115, 32, 110, 111, 32, 118, 97, 108, 117, 101, 32, 104, 101, 114, 101] : List Int32)).getD (nl.length + 5) 0))])
  rw [show ((nl ++ ([58, 32, 116, 104, 101, 32, 118, 97, 114, 105, 97, 98, 108, 101, 32, 104, 97, 115, 32, 110, 111, 32, 118, 97, 108, 117, 101, 32, 104, 101, 114, 101] : List Int32)).getD (nl.length + 5) 0) = (32 : Int32) from getD_app nl _ 5]
  show Run _ _ _ _ _ _ _ _ _ _ _ _ T113 (mkF m 94 #[.val (.ref ms), .val (.int (Int32.ofNat nl.length)), .val (.ref a101)] [(.int (32 : Int32))])
  refine Run.via (fun _ => XS.aloadN X113.at X113.ex rfl (X113.de tad_94) rfl rfl) ?_
  show Run _ _ _ _ _ _ _ _ _ _ _ _ T113 (mkF m 95 #[.val (.ref ms), .val (.int (Int32.ofNat nl.length)), .val (.ref a101)] [(.ref a101), (.int (32 : Int32))])
  refine Run.via (fun _ => XS.iconst X113.at X113.ex rfl (X113.de tad_95)) ?_
  show Run _ _ _ _ _ _ _ _ _ _ _ _ T113 (mkF m 96 #[.val (.ref ms), .val (.int (Int32.ofNat nl.length)), .val (.ref a101)] [(.int (5 : Int32)), (.ref a101), (.int (32 : Int32))])
  refine Run.sch hw hS X113 (W := 1) S101 (fun c q => (latTX c q).2) rfl (by decide) (wd hw 226 rfl) (wd hw 227 rfl) (wd hw 228 rfl) (wd hw 229 rfl) (wd hw 1 rfl) tad_96 rfl (Nat.le_of_ble_eq_true rfl) (by decide) (by decide) (Nat.le_of_ble_eq_true rfl) (Nat.le_of_ble_eq_true rfl) ?_
  intro T114 X114
  show Run _ _ _ _ _ _ _ _ _ _ _ _ T114 (mkF m 99 #[.val (.ref ms), .val (.int (Int32.ofNat nl.length)), .val (.ref a101)] [(.int (32 : Int32)), (.int (32 : Int32))])
  refine Run.via (fun _ => XS.icmpNo X114.at X114.ex rfl (X114.de tad_99) rfl (teq (by decide : ((32 : Int32) = (32 : Int32)))).2) ?_
  show Run _ _ _ _ _ _ _ _ _ _ _ _ T114 (mkF m 102 #[.val (.ref ms), .val (.int (Int32.ofNat nl.length)), .val (.ref a101)] [])
  refine Run.via (fun _ => XS.aloadN X114.at X114.ex rfl (X114.de tad_102) rfl rfl) ?_
  show Run _ _ _ _ _ _ _ _ _ _ _ _ T114 (mkF m 103 #[.val (.ref ms), .val (.int (Int32.ofNat nl.length)), .val (.ref a101)] [(.ref ms)])
  refine Run.via (fun _ => XS.iloadN X114.at X114.ex rfl (X114.de tad_103) rfl) ?_
  show Run _ _ _ _ _ _ _ _ _ _ _ _ T114 (mkF m 104 #[.val (.ref ms), .val (.int (Int32.ofNat nl.length)), .val (.ref a101)] [(.int (Int32.ofNat nl.length)), (.ref ms)])
  refine Run.via (fun _ => XS.bipush X114.at X114.ex rfl (X114.de tad_104)) ?_
  show Run _ _ _ _ _ _ _ _ _ _ _ _ T114 (mkF m 106 #[.val (.ref ms), .val (.int (Int32.ofNat nl.length)), .val (.ref a101)] [(.int (6 : Int32)), (.int (Int32.ofNat nl.length)), (.ref ms)])
  refine Run.via (fun _ => XS.iadd X114.at X114.ex rfl (X114.de tad_106) rfl) ?_
  show Run _ _ _ _ _ _ _ _ _ _ _ _ T114 (mkF m 107 #[.val (.ref ms), .val (.int (Int32.ofNat nl.length)), .val (.ref a101)] [(.int ((Int32.ofNat nl.length) + (6 : Int32))), (.ref ms)])
  rw [show ((Int32.ofNat nl.length) + (6 : Int32)) = (Int32.ofNat (nl.length + 6)) from i32add (b := 6) (by omega)]
  show Run _ _ _ _ _ _ _ _ _ _ _ _ T114 (mkF m 107 #[.val (.ref ms), .val (.int (Int32.ofNat nl.length)), .val (.ref a101)] [(.int (Int32.ofNat (nl.length + 6))), (.ref ms)])
  refine Run.sch hw hS X114 (W := 0) S1 hlm rfl (by rw [List.length_append]; show _ < _ + 32; omega) (wd hw 226 rfl) (wd hw 227 rfl) (wd hw 228 rfl) (wd hw 229 rfl) (wd hw 1 rfl) tad_107 rfl (Nat.le_of_ble_eq_true rfl) (by decide) (by decide) (Nat.le_of_ble_eq_true rfl) (Nat.le_of_ble_eq_true rfl) ?_
  intro T115 X115
  show Run _ _ _ _ _ _ _ _ _ _ _ _ T115 (mkF m 110 #[.val (.ref ms), .val (.int (Int32.ofNat nl.length)), .val (.ref a101)] [(.int ((nl ++ ([58, 32, 116, 104, 101, 32, 118, 97, 114, 105, 97, 98, 108, 101, 32, 104, 97, 115, 32, 110, 111, 32, 118, 97, 108, 117, 101, 32, 104, 101, 114, 101] : List Int32)).getD (nl.length + 6) 0))])
  rw [show ((nl ++ ([58, 32, 116, 104, 101, 32, 118, 97, 114, 105, 97, 98, 108, 101, 32, 104, 97, 115, 32, 110, 111, 32, 118, 97, 108, 117, 101, 32, 104, 101, 114, 101] : List Int32)).getD (nl.length + 6) 0) = (118 : Int32) from getD_app nl _ 6]
  show Run _ _ _ _ _ _ _ _ _ _ _ _ T115 (mkF m 110 #[.val (.ref ms), .val (.int (Int32.ofNat nl.length)), .val (.ref a101)] [(.int (118 : Int32))])
  refine Run.via (fun _ => XS.aloadN X115.at X115.ex rfl (X115.de tad_110) rfl rfl) ?_
  show Run _ _ _ _ _ _ _ _ _ _ _ _ T115 (mkF m 111 #[.val (.ref ms), .val (.int (Int32.ofNat nl.length)), .val (.ref a101)] [(.ref a101), (.int (118 : Int32))])
  refine Run.via (fun _ => XS.bipush X115.at X115.ex rfl (X115.de tad_111)) ?_
  show Run _ _ _ _ _ _ _ _ _ _ _ _ T115 (mkF m 113 #[.val (.ref ms), .val (.int (Int32.ofNat nl.length)), .val (.ref a101)] [(.int (6 : Int32)), (.ref a101), (.int (118 : Int32))])
  refine Run.sch hw hS X115 (W := 1) S101 (fun c q => (latTX c q).2) rfl (by decide) (wd hw 226 rfl) (wd hw 227 rfl) (wd hw 228 rfl) (wd hw 229 rfl) (wd hw 1 rfl) tad_113 rfl (Nat.le_of_ble_eq_true rfl) (by decide) (by decide) (Nat.le_of_ble_eq_true rfl) (Nat.le_of_ble_eq_true rfl) ?_
  intro T116 X116
  show Run _ _ _ _ _ _ _ _ _ _ _ _ T116 (mkF m 116 #[.val (.ref ms), .val (.int (Int32.ofNat nl.length)), .val (.ref a101)] [(.int (118 : Int32)), (.int (118 : Int32))])
  refine Run.via (fun _ => XS.icmpNo X116.at X116.ex rfl (X116.de tad_116) rfl (teq (by decide : ((118 : Int32) = (118 : Int32)))).2) ?_
  show Run _ _ _ _ _ _ _ _ _ _ _ _ T116 (mkF m 119 #[.val (.ref ms), .val (.int (Int32.ofNat nl.length)), .val (.ref a101)] [])
  refine Run.via (fun _ => XS.aloadN X116.at X116.ex rfl (X116.de tad_119) rfl rfl) ?_
  show Run _ _ _ _ _ _ _ _ _ _ _ _ T116 (mkF m 120 #[.val (.ref ms), .val (.int (Int32.ofNat nl.length)), .val (.ref a101)] [(.ref ms)])
  refine Run.via (fun _ => XS.iloadN X116.at X116.ex rfl (X116.de tad_120) rfl) ?_
  show Run _ _ _ _ _ _ _ _ _ _ _ _ T116 (mkF m 121 #[.val (.ref ms), .val (.int (Int32.ofNat nl.length)), .val (.ref a101)] [(.int (Int32.ofNat nl.length)), (.ref ms)])
  refine Run.via (fun _ => XS.bipush X116.at X116.ex rfl (X116.de tad_121)) ?_
  show Run _ _ _ _ _ _ _ _ _ _ _ _ T116 (mkF m 123 #[.val (.ref ms), .val (.int (Int32.ofNat nl.length)), .val (.ref a101)] [(.int (7 : Int32)), (.int (Int32.ofNat nl.length)), (.ref ms)])
  refine Run.via (fun _ => XS.iadd X116.at X116.ex rfl (X116.de tad_123) rfl) ?_
  show Run _ _ _ _ _ _ _ _ _ _ _ _ T116 (mkF m 124 #[.val (.ref ms), .val (.int (Int32.ofNat nl.length)), .val (.ref a101)] [(.int ((Int32.ofNat nl.length) + (7 : Int32))), (.ref ms)])
  rw [show ((Int32.ofNat nl.length) + (7 : Int32)) = (Int32.ofNat (nl.length + 7)) from i32add (b := 7) (by omega)]
  show Run _ _ _ _ _ _ _ _ _ _ _ _ T116 (mkF m 124 #[.val (.ref ms), .val (.int (Int32.ofNat nl.length)), .val (.ref a101)] [(.int (Int32.ofNat (nl.length + 7))), (.ref ms)])
  refine Run.sch hw hS X116 (W := 0) S1 hlm rfl (by rw [List.length_append]; show _ < _ + 32; omega) (wd hw 226 rfl) (wd hw 227 rfl) (wd hw 228 rfl) (wd hw 229 rfl) (wd hw 1 rfl) tad_124 rfl (Nat.le_of_ble_eq_true rfl) (by decide) (by decide) (Nat.le_of_ble_eq_true rfl) (Nat.le_of_ble_eq_true rfl) ?_
  intro T117 X117
  show Run _ _ _ _ _ _ _ _ _ _ _ _ T117 (mkF m 127 #[.val (.ref ms), .val (.int (Int32.ofNat nl.length)), .val (.ref a101)] [(.int ((nl ++ ([58, 32, 116, 104, 101, 32, 118, 97, 114, 105, 97, 98, 108, 101, 32, 104, 97, 115, 32, 110, 111, 32, 118, 97, 108, 117, 101, 32, 104, 101, 114, 101] : List Int32)).getD (nl.length + 7) 0))])
  rw [show ((nl ++ ([58, 32, 116, 104, 101, 32, 118, 97, 114, 105, 97, 98, 108, 101, 32, 104, 97, 115, 32, 110, 111, 32, 118, 97, 108, 117, 101, 32, 104, 101, 114, 101] : List Int32)).getD (nl.length + 7) 0) = (97 : Int32) from getD_app nl _ 7]
  show Run _ _ _ _ _ _ _ _ _ _ _ _ T117 (mkF m 127 #[.val (.ref ms), .val (.int (Int32.ofNat nl.length)), .val (.ref a101)] [(.int (97 : Int32))])
  refine Run.via (fun _ => XS.aloadN X117.at X117.ex rfl (X117.de tad_127) rfl rfl) ?_
  show Run _ _ _ _ _ _ _ _ _ _ _ _ T117 (mkF m 128 #[.val (.ref ms), .val (.int (Int32.ofNat nl.length)), .val (.ref a101)] [(.ref a101), (.int (97 : Int32))])
  refine Run.via (fun _ => XS.bipush X117.at X117.ex rfl (X117.de tad_128)) ?_
  show Run _ _ _ _ _ _ _ _ _ _ _ _ T117 (mkF m 130 #[.val (.ref ms), .val (.int (Int32.ofNat nl.length)), .val (.ref a101)] [(.int (7 : Int32)), (.ref a101), (.int (97 : Int32))])
  refine Run.sch hw hS X117 (W := 1) S101 (fun c q => (latTX c q).2) rfl (by decide) (wd hw 226 rfl) (wd hw 227 rfl) (wd hw 228 rfl) (wd hw 229 rfl) (wd hw 1 rfl) tad_130 rfl (Nat.le_of_ble_eq_true rfl) (by decide) (by decide) (Nat.le_of_ble_eq_true rfl) (Nat.le_of_ble_eq_true rfl) ?_
  intro T118 X118
  show Run _ _ _ _ _ _ _ _ _ _ _ _ T118 (mkF m 133 #[.val (.ref ms), .val (.int (Int32.ofNat nl.length)), .val (.ref a101)] [(.int (97 : Int32)), (.int (97 : Int32))])
  refine Run.via (fun _ => XS.icmpNo X118.at X118.ex rfl (X118.de tad_133) rfl (teq (by decide : ((97 : Int32) = (97 : Int32)))).2) ?_
  show Run _ _ _ _ _ _ _ _ _ _ _ _ T118 (mkF m 136 #[.val (.ref ms), .val (.int (Int32.ofNat nl.length)), .val (.ref a101)] [])
  refine Run.via (fun _ => XS.aloadN X118.at X118.ex rfl (X118.de tad_136) rfl rfl) ?_
  show Run _ _ _ _ _ _ _ _ _ _ _ _ T118 (mkF m 137 #[.val (.ref ms), .val (.int (Int32.ofNat nl.length)), .val (.ref a101)] [(.ref ms)])
  refine Run.via (fun _ => XS.iloadN X118.at X118.ex rfl (X118.de tad_137) rfl) ?_
  show Run _ _ _ _ _ _ _ _ _ _ _ _ T118 (mkF m 138 #[.val (.ref ms), .val (.int (Int32.ofNat nl.length)), .val (.ref a101)] [(.int (Int32.ofNat nl.length)), (.ref ms)])
  refine Run.via (fun _ => XS.bipush X118.at X118.ex rfl (X118.de tad_138)) ?_
  show Run _ _ _ _ _ _ _ _ _ _ _ _ T118 (mkF m 140 #[.val (.ref ms), .val (.int (Int32.ofNat nl.length)), .val (.ref a101)] [(.int (8 : Int32)), (.int (Int32.ofNat nl.length)), (.ref ms)])
  refine Run.via (fun _ => XS.iadd X118.at X118.ex rfl (X118.de tad_140) rfl) ?_
  show Run _ _ _ _ _ _ _ _ _ _ _ _ T118 (mkF m 141 #[.val (.ref ms), .val (.int (Int32.ofNat nl.length)), .val (.ref a101)] [(.int ((Int32.ofNat nl.length) + (8 : Int32))), (.ref ms)])
  rw [show ((Int32.ofNat nl.length) + (8 : Int32)) = (Int32.ofNat (nl.length + 8)) from i32add (b := 8) (by omega)]
  show Run _ _ _ _ _ _ _ _ _ _ _ _ T118 (mkF m 141 #[.val (.ref ms), .val (.int (Int32.ofNat nl.length)), .val (.ref a101)] [(.int (Int32.ofNat (nl.length + 8))), (.ref ms)])
  refine Run.sch hw hS X118 (W := 0) S1 hlm rfl (by rw [List.length_append]; show _ < _ + 32; omega) (wd hw 226 rfl) (wd hw 227 rfl) (wd hw 228 rfl) (wd hw 229 rfl) (wd hw 1 rfl) tad_141 rfl (Nat.le_of_ble_eq_true rfl) (by decide) (by decide) (Nat.le_of_ble_eq_true rfl) (Nat.le_of_ble_eq_true rfl) ?_
  intro T119 X119
  show Run _ _ _ _ _ _ _ _ _ _ _ _ T119 (mkF m 144 #[.val (.ref ms), .val (.int (Int32.ofNat nl.length)), .val (.ref a101)] [(.int ((nl ++ ([58, 32, 116, 104, 101, 32, 118, 97, 114, 105, 97, 98, 108, 101, 32, 104, 97, 115, 32, 110, 111, 32, 118, 97, 108, 117, 101, 32, 104, 101, 114, 101] : List Int32)).getD (nl.length + 8) 0))])
  rw [show ((nl ++ ([58, 32, 116, 104, 101, 32, 118, 97, 114, 105, 97, 98, 108, 101, 32, 104, 97, 115, 32, 110, 111, 32, 118, 97, 108, 117, 101, 32, 104, 101, 114, 101] : List Int32)).getD (nl.length + 8) 0) = (114 : Int32) from getD_app nl _ 8]
  show Run _ _ _ _ _ _ _ _ _ _ _ _ T119 (mkF m 144 #[.val (.ref ms), .val (.int (Int32.ofNat nl.length)), .val (.ref a101)] [(.int (114 : Int32))])
  refine Run.via (fun _ => XS.aloadN X119.at X119.ex rfl (X119.de tad_144) rfl rfl) ?_
  show Run _ _ _ _ _ _ _ _ _ _ _ _ T119 (mkF m 145 #[.val (.ref ms), .val (.int (Int32.ofNat nl.length)), .val (.ref a101)] [(.ref a101), (.int (114 : Int32))])
  refine Run.via (fun _ => XS.bipush X119.at X119.ex rfl (X119.de tad_145)) ?_
  show Run _ _ _ _ _ _ _ _ _ _ _ _ T119 (mkF m 147 #[.val (.ref ms), .val (.int (Int32.ofNat nl.length)), .val (.ref a101)] [(.int (8 : Int32)), (.ref a101), (.int (114 : Int32))])
  refine Run.sch hw hS X119 (W := 1) S101 (fun c q => (latTX c q).2) rfl (by decide) (wd hw 226 rfl) (wd hw 227 rfl) (wd hw 228 rfl) (wd hw 229 rfl) (wd hw 1 rfl) tad_147 rfl (Nat.le_of_ble_eq_true rfl) (by decide) (by decide) (Nat.le_of_ble_eq_true rfl) (Nat.le_of_ble_eq_true rfl) ?_
  intro T120 X120
  show Run _ _ _ _ _ _ _ _ _ _ _ _ T120 (mkF m 150 #[.val (.ref ms), .val (.int (Int32.ofNat nl.length)), .val (.ref a101)] [(.int (114 : Int32)), (.int (114 : Int32))])
  refine Run.via (fun _ => XS.icmpNo X120.at X120.ex rfl (X120.de tad_150) rfl (teq (by decide : ((114 : Int32) = (114 : Int32)))).2) ?_
  show Run _ _ _ _ _ _ _ _ _ _ _ _ T120 (mkF m 153 #[.val (.ref ms), .val (.int (Int32.ofNat nl.length)), .val (.ref a101)] [])
  refine Run.via (fun _ => XS.aloadN X120.at X120.ex rfl (X120.de tad_153) rfl rfl) ?_
  show Run _ _ _ _ _ _ _ _ _ _ _ _ T120 (mkF m 154 #[.val (.ref ms), .val (.int (Int32.ofNat nl.length)), .val (.ref a101)] [(.ref ms)])
  refine Run.via (fun _ => XS.iloadN X120.at X120.ex rfl (X120.de tad_154) rfl) ?_
  show Run _ _ _ _ _ _ _ _ _ _ _ _ T120 (mkF m 155 #[.val (.ref ms), .val (.int (Int32.ofNat nl.length)), .val (.ref a101)] [(.int (Int32.ofNat nl.length)), (.ref ms)])
  refine Run.via (fun _ => XS.bipush X120.at X120.ex rfl (X120.de tad_155)) ?_
  show Run _ _ _ _ _ _ _ _ _ _ _ _ T120 (mkF m 157 #[.val (.ref ms), .val (.int (Int32.ofNat nl.length)), .val (.ref a101)] [(.int (9 : Int32)), (.int (Int32.ofNat nl.length)), (.ref ms)])
  refine Run.via (fun _ => XS.iadd X120.at X120.ex rfl (X120.de tad_157) rfl) ?_
  show Run _ _ _ _ _ _ _ _ _ _ _ _ T120 (mkF m 158 #[.val (.ref ms), .val (.int (Int32.ofNat nl.length)), .val (.ref a101)] [(.int ((Int32.ofNat nl.length) + (9 : Int32))), (.ref ms)])
  rw [show ((Int32.ofNat nl.length) + (9 : Int32)) = (Int32.ofNat (nl.length + 9)) from i32add (b := 9) (by omega)]
  show Run _ _ _ _ _ _ _ _ _ _ _ _ T120 (mkF m 158 #[.val (.ref ms), .val (.int (Int32.ofNat nl.length)), .val (.ref a101)] [(.int (Int32.ofNat (nl.length + 9))), (.ref ms)])
  refine Run.sch hw hS X120 (W := 0) S1 hlm rfl (by rw [List.length_append]; show _ < _ + 32; omega) (wd hw 226 rfl) (wd hw 227 rfl) (wd hw 228 rfl) (wd hw 229 rfl) (wd hw 1 rfl) tad_158 rfl (Nat.le_of_ble_eq_true rfl) (by decide) (by decide) (Nat.le_of_ble_eq_true rfl) (Nat.le_of_ble_eq_true rfl) ?_
  intro T121 X121
  show Run _ _ _ _ _ _ _ _ _ _ _ _ T121 (mkF m 161 #[.val (.ref ms), .val (.int (Int32.ofNat nl.length)), .val (.ref a101)] [(.int ((nl ++ ([58, 32, 116, 104, 101, 32, 118, 97, 114, 105, 97, 98, 108, 101, 32, 104, 97, 115, 32, 110, 111, 32, 118, 97, 108, 117, 101, 32, 104, 101, 114, 101] : List Int32)).getD (nl.length + 9) 0))])
  rw [show ((nl ++ ([58, 32, 116, 104, 101, 32, 118, 97, 114, 105, 97, 98, 108, 101, 32, 104, 97, 115, 32, 110, 111, 32, 118, 97, 108, 117, 101, 32, 104, 101, 114, 101] : List Int32)).getD (nl.length + 9) 0) = (105 : Int32) from getD_app nl _ 9]
  show Run _ _ _ _ _ _ _ _ _ _ _ _ T121 (mkF m 161 #[.val (.ref ms), .val (.int (Int32.ofNat nl.length)), .val (.ref a101)] [(.int (105 : Int32))])
  refine Run.via (fun _ => XS.aloadN X121.at X121.ex rfl (X121.de tad_161) rfl rfl) ?_
  show Run _ _ _ _ _ _ _ _ _ _ _ _ T121 (mkF m 162 #[.val (.ref ms), .val (.int (Int32.ofNat nl.length)), .val (.ref a101)] [(.ref a101), (.int (105 : Int32))])
  refine Run.via (fun _ => XS.bipush X121.at X121.ex rfl (X121.de tad_162)) ?_
  show Run _ _ _ _ _ _ _ _ _ _ _ _ T121 (mkF m 164 #[.val (.ref ms), .val (.int (Int32.ofNat nl.length)), .val (.ref a101)] [(.int (9 : Int32)), (.ref a101), (.int (105 : Int32))])
  refine Run.sch hw hS X121 (W := 1) S101 (fun c q => (latTX c q).2) rfl (by decide) (wd hw 226 rfl) (wd hw 227 rfl) (wd hw 228 rfl) (wd hw 229 rfl) (wd hw 1 rfl) tad_164 rfl (Nat.le_of_ble_eq_true rfl) (by decide) (by decide) (Nat.le_of_ble_eq_true rfl) (Nat.le_of_ble_eq_true rfl) ?_
  intro T122 X122
  show Run _ _ _ _ _ _ _ _ _ _ _ _ T122 (mkF m 167 #[.val (.ref ms), .val (.int (Int32.ofNat nl.length)), .val (.ref a101)] [(.int (105 : Int32)), (.int (105 : Int32))])
  refine Run.via (fun _ => XS.icmpNo X122.at X122.ex rfl (X122.de tad_167) rfl (teq (by decide : ((105 : Int32) = (105 : Int32)))).2) ?_
  show Run _ _ _ _ _ _ _ _ _ _ _ _ T122 (mkF m 170 #[.val (.ref ms), .val (.int (Int32.ofNat nl.length)), .val (.ref a101)] [])
  refine Run.via (fun _ => XS.aloadN X122.at X122.ex rfl (X122.de tad_170) rfl rfl) ?_
  show Run _ _ _ _ _ _ _ _ _ _ _ _ T122 (mkF m 171 #[.val (.ref ms), .val (.int (Int32.ofNat nl.length)), .val (.ref a101)] [(.ref ms)])
  refine Run.via (fun _ => XS.iloadN X122.at X122.ex rfl (X122.de tad_171) rfl) ?_
  show Run _ _ _ _ _ _ _ _ _ _ _ _ T122 (mkF m 172 #[.val (.ref ms), .val (.int (Int32.ofNat nl.length)), .val (.ref a101)] [(.int (Int32.ofNat nl.length)), (.ref ms)])
  refine Run.via (fun _ => XS.bipush X122.at X122.ex rfl (X122.de tad_172)) ?_
  show Run _ _ _ _ _ _ _ _ _ _ _ _ T122 (mkF m 174 #[.val (.ref ms), .val (.int (Int32.ofNat nl.length)), .val (.ref a101)] [(.int (10 : Int32)), (.int (Int32.ofNat nl.length)), (.ref ms)])
  refine Run.via (fun _ => XS.iadd X122.at X122.ex rfl (X122.de tad_174) rfl) ?_
  show Run _ _ _ _ _ _ _ _ _ _ _ _ T122 (mkF m 175 #[.val (.ref ms), .val (.int (Int32.ofNat nl.length)), .val (.ref a101)] [(.int ((Int32.ofNat nl.length) + (10 : Int32))), (.ref ms)])
  rw [show ((Int32.ofNat nl.length) + (10 : Int32)) = (Int32.ofNat (nl.length + 10)) from i32add (b := 10) (by omega)]
  show Run _ _ _ _ _ _ _ _ _ _ _ _ T122 (mkF m 175 #[.val (.ref ms), .val (.int (Int32.ofNat nl.length)), .val (.ref a101)] [(.int (Int32.ofNat (nl.length + 10))), (.ref ms)])
  refine Run.sch hw hS X122 (W := 0) S1 hlm rfl (by rw [List.length_append]; show _ < _ + 32; omega) (wd hw 226 rfl) (wd hw 227 rfl) (wd hw 228 rfl) (wd hw 229 rfl) (wd hw 1 rfl) tad_175 rfl (Nat.le_of_ble_eq_true rfl) (by decide) (by decide) (Nat.le_of_ble_eq_true rfl) (Nat.le_of_ble_eq_true rfl) ?_
  intro T123 X123
  show Run _ _ _ _ _ _ _ _ _ _ _ _ T123 (mkF m 178 #[.val (.ref ms), .val (.int (Int32.ofNat nl.length)), .val (.ref a101)] [(.int ((nl ++ ([58, 32, 116, 104, 101, 32, 118, 97, 114, 105, 97, 98, 108, 101, 32, 104, 97, 115, 32, 110, 111, 32, 118, 97, 108, 117, 101, 32, 104, 101, 114, 101] : List Int32)).getD (nl.length + 10) 0))])
  rw [show ((nl ++ ([58, 32, 116, 104, 101, 32, 118, 97, 114, 105, 97, 98, 108, 101, 32, 104, 97, 115, 32, 110, 111, 32, 118, 97, 108, 117, 101, 32, 104, 101, 114, 101] : List Int32)).getD (nl.length + 10) 0) = (97 : Int32) from getD_app nl _ 10]
  show Run _ _ _ _ _ _ _ _ _ _ _ _ T123 (mkF m 178 #[.val (.ref ms), .val (.int (Int32.ofNat nl.length)), .val (.ref a101)] [(.int (97 : Int32))])
  refine Run.via (fun _ => XS.aloadN X123.at X123.ex rfl (X123.de tad_178) rfl rfl) ?_
  show Run _ _ _ _ _ _ _ _ _ _ _ _ T123 (mkF m 179 #[.val (.ref ms), .val (.int (Int32.ofNat nl.length)), .val (.ref a101)] [(.ref a101), (.int (97 : Int32))])
  refine Run.via (fun _ => XS.bipush X123.at X123.ex rfl (X123.de tad_179)) ?_
  show Run _ _ _ _ _ _ _ _ _ _ _ _ T123 (mkF m 181 #[.val (.ref ms), .val (.int (Int32.ofNat nl.length)), .val (.ref a101)] [(.int (10 : Int32)), (.ref a101), (.int (97 : Int32))])
  refine Run.sch hw hS X123 (W := 1) S101 (fun c q => (latTX c q).2) rfl (by decide) (wd hw 226 rfl) (wd hw 227 rfl) (wd hw 228 rfl) (wd hw 229 rfl) (wd hw 1 rfl) tad_181 rfl (Nat.le_of_ble_eq_true rfl) (by decide) (by decide) (Nat.le_of_ble_eq_true rfl) (Nat.le_of_ble_eq_true rfl) ?_
  intro T124 X124
  show Run _ _ _ _ _ _ _ _ _ _ _ _ T124 (mkF m 184 #[.val (.ref ms), .val (.int (Int32.ofNat nl.length)), .val (.ref a101)] [(.int (97 : Int32)), (.int (97 : Int32))])
  refine Run.via (fun _ => XS.icmpNo X124.at X124.ex rfl (X124.de tad_184) rfl (teq (by decide : ((97 : Int32) = (97 : Int32)))).2) ?_
  show Run _ _ _ _ _ _ _ _ _ _ _ _ T124 (mkF m 187 #[.val (.ref ms), .val (.int (Int32.ofNat nl.length)), .val (.ref a101)] [])
  refine Run.via (fun _ => XS.aloadN X124.at X124.ex rfl (X124.de tad_187) rfl rfl) ?_
  show Run _ _ _ _ _ _ _ _ _ _ _ _ T124 (mkF m 188 #[.val (.ref ms), .val (.int (Int32.ofNat nl.length)), .val (.ref a101)] [(.ref ms)])
  refine Run.via (fun _ => XS.iloadN X124.at X124.ex rfl (X124.de tad_188) rfl) ?_
  show Run _ _ _ _ _ _ _ _ _ _ _ _ T124 (mkF m 189 #[.val (.ref ms), .val (.int (Int32.ofNat nl.length)), .val (.ref a101)] [(.int (Int32.ofNat nl.length)), (.ref ms)])
  refine Run.via (fun _ => XS.bipush X124.at X124.ex rfl (X124.de tad_189)) ?_
  show Run _ _ _ _ _ _ _ _ _ _ _ _ T124 (mkF m 191 #[.val (.ref ms), .val (.int (Int32.ofNat nl.length)), .val (.ref a101)] [(.int (11 : Int32)), (.int (Int32.ofNat nl.length)), (.ref ms)])
  refine Run.via (fun _ => XS.iadd X124.at X124.ex rfl (X124.de tad_191) rfl) ?_
  show Run _ _ _ _ _ _ _ _ _ _ _ _ T124 (mkF m 192 #[.val (.ref ms), .val (.int (Int32.ofNat nl.length)), .val (.ref a101)] [(.int ((Int32.ofNat nl.length) + (11 : Int32))), (.ref ms)])
  rw [show ((Int32.ofNat nl.length) + (11 : Int32)) = (Int32.ofNat (nl.length + 11)) from i32add (b := 11) (by omega)]
  show Run _ _ _ _ _ _ _ _ _ _ _ _ T124 (mkF m 192 #[.val (.ref ms), .val (.int (Int32.ofNat nl.length)), .val (.ref a101)] [(.int (Int32.ofNat (nl.length + 11))), (.ref ms)])
  refine Run.sch hw hS X124 (W := 0) S1 hlm rfl (by rw [List.length_append]; show _ < _ + 32; omega) (wd hw 226 rfl) (wd hw 227 rfl) (wd hw 228 rfl) (wd hw 229 rfl) (wd hw 1 rfl) tad_192 rfl (Nat.le_of_ble_eq_true rfl) (by decide) (by decide) (Nat.le_of_ble_eq_true rfl) (Nat.le_of_ble_eq_true rfl) ?_
  intro T125 X125
  show Run _ _ _ _ _ _ _ _ _ _ _ _ T125 (mkF m 195 #[.val (.ref ms), .val (.int (Int32.ofNat nl.length)), .val (.ref a101)] [(.int ((nl ++ ([58, 32, 116, 104, 101, 32, 118, 97, 114, 105, 97, 98, 108, 101, 32, 104, 97, 115, 32, 110, 111, 32, 118, 97, 108, 117, 101, 32, 104, 101, 114, 101] : List Int32)).getD (nl.length + 11) 0))])
  rw [show ((nl ++ ([58, 32, 116, 104, 101, 32, 118, 97, 114, 105, 97, 98, 108, 101, 32, 104, 97, 115, 32, 110, 111, 32, 118, 97, 108, 117, 101, 32, 104, 101, 114, 101] : List Int32)).getD (nl.length + 11) 0) = (98 : Int32) from getD_app nl _ 11]
  show Run _ _ _ _ _ _ _ _ _ _ _ _ T125 (mkF m 195 #[.val (.ref ms), .val (.int (Int32.ofNat nl.length)), .val (.ref a101)] [(.int (98 : Int32))])
  refine Run.via (fun _ => XS.aloadN X125.at X125.ex rfl (X125.de tad_195) rfl rfl) ?_
  show Run _ _ _ _ _ _ _ _ _ _ _ _ T125 (mkF m 196 #[.val (.ref ms), .val (.int (Int32.ofNat nl.length)), .val (.ref a101)] [(.ref a101), (.int (98 : Int32))])
  refine Run.via (fun _ => XS.bipush X125.at X125.ex rfl (X125.de tad_196)) ?_
  show Run _ _ _ _ _ _ _ _ _ _ _ _ T125 (mkF m 198 #[.val (.ref ms), .val (.int (Int32.ofNat nl.length)), .val (.ref a101)] [(.int (11 : Int32)), (.ref a101), (.int (98 : Int32))])
  refine Run.sch hw hS X125 (W := 1) S101 (fun c q => (latTX c q).2) rfl (by decide) (wd hw 226 rfl) (wd hw 227 rfl) (wd hw 228 rfl) (wd hw 229 rfl) (wd hw 1 rfl) tad_198 rfl (Nat.le_of_ble_eq_true rfl) (by decide) (by decide) (Nat.le_of_ble_eq_true rfl) (Nat.le_of_ble_eq_true rfl) ?_
  intro T126 X126
  show Run _ _ _ _ _ _ _ _ _ _ _ _ T126 (mkF m 201 #[.val (.ref ms), .val (.int (Int32.ofNat nl.length)), .val (.ref a101)] [(.int (98 : Int32)), (.int (98 : Int32))])
  refine Run.via (fun _ => XS.icmpNo X126.at X126.ex rfl (X126.de tad_201) rfl (teq (by decide : ((98 : Int32) = (98 : Int32)))).2) ?_
  show Run _ _ _ _ _ _ _ _ _ _ _ _ T126 (mkF m 204 #[.val (.ref ms), .val (.int (Int32.ofNat nl.length)), .val (.ref a101)] [])
  refine Run.via (fun _ => XS.aloadN X126.at X126.ex rfl (X126.de tad_204) rfl rfl) ?_
  show Run _ _ _ _ _ _ _ _ _ _ _ _ T126 (mkF m 205 #[.val (.ref ms), .val (.int (Int32.ofNat nl.length)), .val (.ref a101)] [(.ref ms)])
  refine Run.via (fun _ => XS.iloadN X126.at X126.ex rfl (X126.de tad_205) rfl) ?_
  show Run _ _ _ _ _ _ _ _ _ _ _ _ T126 (mkF m 206 #[.val (.ref ms), .val (.int (Int32.ofNat nl.length)), .val (.ref a101)] [(.int (Int32.ofNat nl.length)), (.ref ms)])
  refine Run.via (fun _ => XS.bipush X126.at X126.ex rfl (X126.de tad_206)) ?_
  show Run _ _ _ _ _ _ _ _ _ _ _ _ T126 (mkF m 208 #[.val (.ref ms), .val (.int (Int32.ofNat nl.length)), .val (.ref a101)] [(.int (12 : Int32)), (.int (Int32.ofNat nl.length)), (.ref ms)])
  refine Run.via (fun _ => XS.iadd X126.at X126.ex rfl (X126.de tad_208) rfl) ?_
  show Run _ _ _ _ _ _ _ _ _ _ _ _ T126 (mkF m 209 #[.val (.ref ms), .val (.int (Int32.ofNat nl.length)), .val (.ref a101)] [(.int ((Int32.ofNat nl.length) + (12 : Int32))), (.ref ms)])
  rw [show ((Int32.ofNat nl.length) + (12 : Int32)) = (Int32.ofNat (nl.length + 12)) from i32add (b := 12) (by omega)]
  show Run _ _ _ _ _ _ _ _ _ _ _ _ T126 (mkF m 209 #[.val (.ref ms), .val (.int (Int32.ofNat nl.length)), .val (.ref a101)] [(.int (Int32.ofNat (nl.length + 12))), (.ref ms)])
  refine Run.sch hw hS X126 (W := 0) S1 hlm rfl (by rw [List.length_append]; show _ < _ + 32; omega) (wd hw 226 rfl) (wd hw 227 rfl) (wd hw 228 rfl) (wd hw 229 rfl) (wd hw 1 rfl) tad_209 rfl (Nat.le_of_ble_eq_true rfl) (by decide) (by decide) (Nat.le_of_ble_eq_true rfl) (Nat.le_of_ble_eq_true rfl) ?_
  intro T127 X127
  show Run _ _ _ _ _ _ _ _ _ _ _ _ T127 (mkF m 212 #[.val (.ref ms), .val (.int (Int32.ofNat nl.length)), .val (.ref a101)] [(.int ((nl ++ ([58, 32, 116, 104, 101, 32, 118, 97, 114, 105, 97, 98, 108, 101, 32, 104, 97, 115, 32, 110, 111, 32, 118, 97, 108, 117, 101, 32, 104, 101, 114, 101] : List Int32)).getD (nl.length + 12) 0))])
  rw [show ((nl ++ ([58, 32, 116, 104, 101, 32, 118, 97, 114, 105, 97, 98, 108, 101, 32, 104, 97, 115, 32, 110, 111, 32, 118, 97, 108, 117, 101, 32, 104, 101, 114, 101] : List Int32)).getD (nl.length + 12) 0) = (108 : Int32) from getD_app nl _ 12]
  show Run _ _ _ _ _ _ _ _ _ _ _ _ T127 (mkF m 212 #[.val (.ref ms), .val (.int (Int32.ofNat nl.length)), .val (.ref a101)] [(.int (108 : Int32))])
  refine Run.via (fun _ => XS.aloadN X127.at X127.ex rfl (X127.de tad_212) rfl rfl) ?_
  show Run _ _ _ _ _ _ _ _ _ _ _ _ T127 (mkF m 213 #[.val (.ref ms), .val (.int (Int32.ofNat nl.length)), .val (.ref a101)] [(.ref a101), (.int (108 : Int32))])
  refine Run.via (fun _ => XS.bipush X127.at X127.ex rfl (X127.de tad_213)) ?_
  show Run _ _ _ _ _ _ _ _ _ _ _ _ T127 (mkF m 215 #[.val (.ref ms), .val (.int (Int32.ofNat nl.length)), .val (.ref a101)] [(.int (12 : Int32)), (.ref a101), (.int (108 : Int32))])
  refine Run.sch hw hS X127 (W := 1) S101 (fun c q => (latTX c q).2) rfl (by decide) (wd hw 226 rfl) (wd hw 227 rfl) (wd hw 228 rfl) (wd hw 229 rfl) (wd hw 1 rfl) tad_215 rfl (Nat.le_of_ble_eq_true rfl) (by decide) (by decide) (Nat.le_of_ble_eq_true rfl) (Nat.le_of_ble_eq_true rfl) ?_
  intro T128 X128
  show Run _ _ _ _ _ _ _ _ _ _ _ _ T128 (mkF m 218 #[.val (.ref ms), .val (.int (Int32.ofNat nl.length)), .val (.ref a101)] [(.int (108 : Int32)), (.int (108 : Int32))])
  refine Run.via (fun _ => XS.icmpNo X128.at X128.ex rfl (X128.de tad_218) rfl (teq (by decide : ((108 : Int32) = (108 : Int32)))).2) ?_
  show Run _ _ _ _ _ _ _ _ _ _ _ _ T128 (mkF m 221 #[.val (.ref ms), .val (.int (Int32.ofNat nl.length)), .val (.ref a101)] [])
  refine Run.via (fun _ => XS.aloadN X128.at X128.ex rfl (X128.de tad_221) rfl rfl) ?_
  show Run _ _ _ _ _ _ _ _ _ _ _ _ T128 (mkF m 222 #[.val (.ref ms), .val (.int (Int32.ofNat nl.length)), .val (.ref a101)] [(.ref ms)])
  refine Run.via (fun _ => XS.iloadN X128.at X128.ex rfl (X128.de tad_222) rfl) ?_
  show Run _ _ _ _ _ _ _ _ _ _ _ _ T128 (mkF m 223 #[.val (.ref ms), .val (.int (Int32.ofNat nl.length)), .val (.ref a101)] [(.int (Int32.ofNat nl.length)), (.ref ms)])
  refine Run.via (fun _ => XS.bipush X128.at X128.ex rfl (X128.de tad_223)) ?_
  show Run _ _ _ _ _ _ _ _ _ _ _ _ T128 (mkF m 225 #[.val (.ref ms), .val (.int (Int32.ofNat nl.length)), .val (.ref a101)] [(.int (13 : Int32)), (.int (Int32.ofNat nl.length)), (.ref ms)])
  refine Run.via (fun _ => XS.iadd X128.at X128.ex rfl (X128.de tad_225) rfl) ?_
  show Run _ _ _ _ _ _ _ _ _ _ _ _ T128 (mkF m 226 #[.val (.ref ms), .val (.int (Int32.ofNat nl.length)), .val (.ref a101)] [(.int ((Int32.ofNat nl.length) + (13 : Int32))), (.ref ms)])
  rw [show ((Int32.ofNat nl.length) + (13 : Int32)) = (Int32.ofNat (nl.length + 13)) from i32add (b := 13) (by omega)]
  show Run _ _ _ _ _ _ _ _ _ _ _ _ T128 (mkF m 226 #[.val (.ref ms), .val (.int (Int32.ofNat nl.length)), .val (.ref a101)] [(.int (Int32.ofNat (nl.length + 13))), (.ref ms)])
  refine Run.sch hw hS X128 (W := 0) S1 hlm rfl (by rw [List.length_append]; show _ < _ + 32; omega) (wd hw 226 rfl) (wd hw 227 rfl) (wd hw 228 rfl) (wd hw 229 rfl) (wd hw 1 rfl) tad_226 rfl (Nat.le_of_ble_eq_true rfl) (by decide) (by decide) (Nat.le_of_ble_eq_true rfl) (Nat.le_of_ble_eq_true rfl) ?_
  intro T129 X129
  show Run _ _ _ _ _ _ _ _ _ _ _ _ T129 (mkF m 229 #[.val (.ref ms), .val (.int (Int32.ofNat nl.length)), .val (.ref a101)] [(.int ((nl ++ ([58, 32, 116, 104, 101, 32, 118, 97, 114, 105, 97, 98, 108, 101, 32, 104, 97, 115, 32, 110, 111, 32, 118, 97, 108, 117, 101, 32, 104, 101, 114, 101] : List Int32)).getD (nl.length + 13) 0))])
  rw [show ((nl ++ ([58, 32, 116, 104, 101, 32, 118, 97, 114, 105, 97, 98, 108, 101, 32, 104, 97, 115, 32, 110, 111, 32, 118, 97, 108, 117, 101, 32, 104, 101, 114, 101] : List Int32)).getD (nl.length + 13) 0) = (101 : Int32) from getD_app nl _ 13]
  show Run _ _ _ _ _ _ _ _ _ _ _ _ T129 (mkF m 229 #[.val (.ref ms), .val (.int (Int32.ofNat nl.length)), .val (.ref a101)] [(.int (101 : Int32))])
  refine Run.via (fun _ => XS.aloadN X129.at X129.ex rfl (X129.de tad_229) rfl rfl) ?_
  show Run _ _ _ _ _ _ _ _ _ _ _ _ T129 (mkF m 230 #[.val (.ref ms), .val (.int (Int32.ofNat nl.length)), .val (.ref a101)] [(.ref a101), (.int (101 : Int32))])
  refine Run.via (fun _ => XS.bipush X129.at X129.ex rfl (X129.de tad_230)) ?_
  show Run _ _ _ _ _ _ _ _ _ _ _ _ T129 (mkF m 232 #[.val (.ref ms), .val (.int (Int32.ofNat nl.length)), .val (.ref a101)] [(.int (13 : Int32)), (.ref a101), (.int (101 : Int32))])
  refine Run.sch hw hS X129 (W := 1) S101 (fun c q => (latTX c q).2) rfl (by decide) (wd hw 226 rfl) (wd hw 227 rfl) (wd hw 228 rfl) (wd hw 229 rfl) (wd hw 1 rfl) tad_232 rfl (Nat.le_of_ble_eq_true rfl) (by decide) (by decide) (Nat.le_of_ble_eq_true rfl) (Nat.le_of_ble_eq_true rfl) ?_
  intro T130 X130
  show Run _ _ _ _ _ _ _ _ _ _ _ _ T130 (mkF m 235 #[.val (.ref ms), .val (.int (Int32.ofNat nl.length)), .val (.ref a101)] [(.int (101 : Int32)), (.int (101 : Int32))])
  refine Run.via (fun _ => XS.icmpNo X130.at X130.ex rfl (X130.de tad_235) rfl (teq (by decide : ((101 : Int32) = (101 : Int32)))).2) ?_
  show Run _ _ _ _ _ _ _ _ _ _ _ _ T130 (mkF m 238 #[.val (.ref ms), .val (.int (Int32.ofNat nl.length)), .val (.ref a101)] [])
  refine Run.via (fun _ => XS.aloadN X130.at X130.ex rfl (X130.de tad_238) rfl rfl) ?_
  show Run _ _ _ _ _ _ _ _ _ _ _ _ T130 (mkF m 239 #[.val (.ref ms), .val (.int (Int32.ofNat nl.length)), .val (.ref a101)] [(.ref ms)])
  refine Run.via (fun _ => XS.iloadN X130.at X130.ex rfl (X130.de tad_239) rfl) ?_
  show Run _ _ _ _ _ _ _ _ _ _ _ _ T130 (mkF m 240 #[.val (.ref ms), .val (.int (Int32.ofNat nl.length)), .val (.ref a101)] [(.int (Int32.ofNat nl.length)), (.ref ms)])
  refine Run.via (fun _ => XS.bipush X130.at X130.ex rfl (X130.de tad_240)) ?_
  show Run _ _ _ _ _ _ _ _ _ _ _ _ T130 (mkF m 242 #[.val (.ref ms), .val (.int (Int32.ofNat nl.length)), .val (.ref a101)] [(.int (14 : Int32)), (.int (Int32.ofNat nl.length)), (.ref ms)])
  refine Run.via (fun _ => XS.iadd X130.at X130.ex rfl (X130.de tad_242) rfl) ?_
  show Run _ _ _ _ _ _ _ _ _ _ _ _ T130 (mkF m 243 #[.val (.ref ms), .val (.int (Int32.ofNat nl.length)), .val (.ref a101)] [(.int ((Int32.ofNat nl.length) + (14 : Int32))), (.ref ms)])
  rw [show ((Int32.ofNat nl.length) + (14 : Int32)) = (Int32.ofNat (nl.length + 14)) from i32add (b := 14) (by omega)]
  show Run _ _ _ _ _ _ _ _ _ _ _ _ T130 (mkF m 243 #[.val (.ref ms), .val (.int (Int32.ofNat nl.length)), .val (.ref a101)] [(.int (Int32.ofNat (nl.length + 14))), (.ref ms)])
  refine Run.sch hw hS X130 (W := 0) S1 hlm rfl (by rw [List.length_append]; show _ < _ + 32; omega) (wd hw 226 rfl) (wd hw 227 rfl) (wd hw 228 rfl) (wd hw 229 rfl) (wd hw 1 rfl) tad_243 rfl (Nat.le_of_ble_eq_true rfl) (by decide) (by decide) (Nat.le_of_ble_eq_true rfl) (Nat.le_of_ble_eq_true rfl) ?_
  intro T131 X131
  show Run _ _ _ _ _ _ _ _ _ _ _ _ T131 (mkF m 246 #[.val (.ref ms), .val (.int (Int32.ofNat nl.length)), .val (.ref a101)] [(.int ((nl ++ ([58, 32, 116, 104, 101, 32, 118, 97, 114, 105, 97, 98, 108, 101, 32, 104, 97, 115, 32, 110, 111, 32, 118, 97, 108, 117, 101, 32, 104, 101, 114, 101] : List Int32)).getD (nl.length + 14) 0))])
  rw [show ((nl ++ ([58, 32, 116, 104, 101, 32, 118, 97, 114, 105, 97, 98, 108, 101, 32, 104, 97, 115, 32, 110, 111, 32, 118, 97, 108, 117, 101, 32, 104, 101, 114, 101] : List Int32)).getD (nl.length + 14) 0) = (32 : Int32) from getD_app nl _ 14]
  show Run _ _ _ _ _ _ _ _ _ _ _ _ T131 (mkF m 246 #[.val (.ref ms), .val (.int (Int32.ofNat nl.length)), .val (.ref a101)] [(.int (32 : Int32))])
  refine Run.via (fun _ => XS.aloadN X131.at X131.ex rfl (X131.de tad_246) rfl rfl) ?_
  show Run _ _ _ _ _ _ _ _ _ _ _ _ T131 (mkF m 247 #[.val (.ref ms), .val (.int (Int32.ofNat nl.length)), .val (.ref a101)] [(.ref a101), (.int (32 : Int32))])
  refine Run.via (fun _ => XS.bipush X131.at X131.ex rfl (X131.de tad_247)) ?_
  show Run _ _ _ _ _ _ _ _ _ _ _ _ T131 (mkF m 249 #[.val (.ref ms), .val (.int (Int32.ofNat nl.length)), .val (.ref a101)] [(.int (14 : Int32)), (.ref a101), (.int (32 : Int32))])
  refine Run.sch hw hS X131 (W := 1) S101 (fun c q => (latTX c q).2) rfl (by decide) (wd hw 226 rfl) (wd hw 227 rfl) (wd hw 228 rfl) (wd hw 229 rfl) (wd hw 1 rfl) tad_249 rfl (Nat.le_of_ble_eq_true rfl) (by decide) (by decide) (Nat.le_of_ble_eq_true rfl) (Nat.le_of_ble_eq_true rfl) ?_
  intro T132 X132
  show Run _ _ _ _ _ _ _ _ _ _ _ _ T132 (mkF m 252 #[.val (.ref ms), .val (.int (Int32.ofNat nl.length)), .val (.ref a101)] [(.int (32 : Int32)), (.int (32 : Int32))])
  refine Run.via (fun _ => XS.icmpNo X132.at X132.ex rfl (X132.de tad_252) rfl (teq (by decide : ((32 : Int32) = (32 : Int32)))).2) ?_
  show Run _ _ _ _ _ _ _ _ _ _ _ _ T132 (mkF m 255 #[.val (.ref ms), .val (.int (Int32.ofNat nl.length)), .val (.ref a101)] [])
  refine Run.via (fun _ => XS.aloadN X132.at X132.ex rfl (X132.de tad_255) rfl rfl) ?_
  show Run _ _ _ _ _ _ _ _ _ _ _ _ T132 (mkF m 256 #[.val (.ref ms), .val (.int (Int32.ofNat nl.length)), .val (.ref a101)] [(.ref ms)])
  refine Run.via (fun _ => XS.iloadN X132.at X132.ex rfl (X132.de tad_256) rfl) ?_
  show Run _ _ _ _ _ _ _ _ _ _ _ _ T132 (mkF m 257 #[.val (.ref ms), .val (.int (Int32.ofNat nl.length)), .val (.ref a101)] [(.int (Int32.ofNat nl.length)), (.ref ms)])
  refine Run.via (fun _ => XS.bipush X132.at X132.ex rfl (X132.de tad_257)) ?_
  show Run _ _ _ _ _ _ _ _ _ _ _ _ T132 (mkF m 259 #[.val (.ref ms), .val (.int (Int32.ofNat nl.length)), .val (.ref a101)] [(.int (15 : Int32)), (.int (Int32.ofNat nl.length)), (.ref ms)])
  refine Run.via (fun _ => XS.iadd X132.at X132.ex rfl (X132.de tad_259) rfl) ?_
  show Run _ _ _ _ _ _ _ _ _ _ _ _ T132 (mkF m 260 #[.val (.ref ms), .val (.int (Int32.ofNat nl.length)), .val (.ref a101)] [(.int ((Int32.ofNat nl.length) + (15 : Int32))), (.ref ms)])
  rw [show ((Int32.ofNat nl.length) + (15 : Int32)) = (Int32.ofNat (nl.length + 15)) from i32add (b := 15) (by omega)]
  show Run _ _ _ _ _ _ _ _ _ _ _ _ T132 (mkF m 260 #[.val (.ref ms), .val (.int (Int32.ofNat nl.length)), .val (.ref a101)] [(.int (Int32.ofNat (nl.length + 15))), (.ref ms)])
  refine Run.sch hw hS X132 (W := 0) S1 hlm rfl (by rw [List.length_append]; show _ < _ + 32; omega) (wd hw 226 rfl) (wd hw 227 rfl) (wd hw 228 rfl) (wd hw 229 rfl) (wd hw 1 rfl) tad_260 rfl (Nat.le_of_ble_eq_true rfl) (by decide) (by decide) (Nat.le_of_ble_eq_true rfl) (Nat.le_of_ble_eq_true rfl) ?_
  intro T133 X133
  show Run _ _ _ _ _ _ _ _ _ _ _ _ T133 (mkF m 263 #[.val (.ref ms), .val (.int (Int32.ofNat nl.length)), .val (.ref a101)] [(.int ((nl ++ ([58, 32, 116, 104, 101, 32, 118, 97, 114, 105, 97, 98, 108, 101, 32, 104, 97, 115, 32, 110, 111, 32, 118, 97, 108, 117, 101, 32, 104, 101, 114, 101] : List Int32)).getD (nl.length + 15) 0))])
  rw [show ((nl ++ ([58, 32, 116, 104, 101, 32, 118, 97, 114, 105, 97, 98, 108, 101, 32, 104, 97, 115, 32, 110, 111, 32, 118, 97, 108, 117, 101, 32, 104, 101, 114, 101] : List Int32)).getD (nl.length + 15) 0) = (104 : Int32) from getD_app nl _ 15]
  show Run _ _ _ _ _ _ _ _ _ _ _ _ T133 (mkF m 263 #[.val (.ref ms), .val (.int (Int32.ofNat nl.length)), .val (.ref a101)] [(.int (104 : Int32))])
  refine Run.via (fun _ => XS.aloadN X133.at X133.ex rfl (X133.de tad_263) rfl rfl) ?_
  show Run _ _ _ _ _ _ _ _ _ _ _ _ T133 (mkF m 264 #[.val (.ref ms), .val (.int (Int32.ofNat nl.length)), .val (.ref a101)] [(.ref a101), (.int (104 : Int32))])
  refine Run.via (fun _ => XS.bipush X133.at X133.ex rfl (X133.de tad_264)) ?_
  show Run _ _ _ _ _ _ _ _ _ _ _ _ T133 (mkF m 266 #[.val (.ref ms), .val (.int (Int32.ofNat nl.length)), .val (.ref a101)] [(.int (15 : Int32)), (.ref a101), (.int (104 : Int32))])
  refine Run.sch hw hS X133 (W := 1) S101 (fun c q => (latTX c q).2) rfl (by decide) (wd hw 226 rfl) (wd hw 227 rfl) (wd hw 228 rfl) (wd hw 229 rfl) (wd hw 1 rfl) tad_266 rfl (Nat.le_of_ble_eq_true rfl) (by decide) (by decide) (Nat.le_of_ble_eq_true rfl) (Nat.le_of_ble_eq_true rfl) ?_
  intro T134 X134
  show Run _ _ _ _ _ _ _ _ _ _ _ _ T134 (mkF m 269 #[.val (.ref ms), .val (.int (Int32.ofNat nl.length)), .val (.ref a101)] [(.int (104 : Int32)), (.int (104 : Int32))])
  refine Run.via (fun _ => XS.icmpNo X134.at X134.ex rfl (X134.de tad_269) rfl (teq (by decide : ((104 : Int32) = (104 : Int32)))).2) ?_
  show Run _ _ _ _ _ _ _ _ _ _ _ _ T134 (mkF m 272 #[.val (.ref ms), .val (.int (Int32.ofNat nl.length)), .val (.ref a101)] [])
  refine Run.via (fun _ => XS.aloadN X134.at X134.ex rfl (X134.de tad_272) rfl rfl) ?_
  show Run _ _ _ _ _ _ _ _ _ _ _ _ T134 (mkF m 273 #[.val (.ref ms), .val (.int (Int32.ofNat nl.length)), .val (.ref a101)] [(.ref ms)])
  refine Run.via (fun _ => XS.iloadN X134.at X134.ex rfl (X134.de tad_273) rfl) ?_
  show Run _ _ _ _ _ _ _ _ _ _ _ _ T134 (mkF m 274 #[.val (.ref ms), .val (.int (Int32.ofNat nl.length)), .val (.ref a101)] [(.int (Int32.ofNat nl.length)), (.ref ms)])
  refine Run.via (fun _ => XS.bipush X134.at X134.ex rfl (X134.de tad_274)) ?_
  show Run _ _ _ _ _ _ _ _ _ _ _ _ T134 (mkF m 276 #[.val (.ref ms), .val (.int (Int32.ofNat nl.length)), .val (.ref a101)] [(.int (16 : Int32)), (.int (Int32.ofNat nl.length)), (.ref ms)])
  refine Run.via (fun _ => XS.iadd X134.at X134.ex rfl (X134.de tad_276) rfl) ?_
  show Run _ _ _ _ _ _ _ _ _ _ _ _ T134 (mkF m 277 #[.val (.ref ms), .val (.int (Int32.ofNat nl.length)), .val (.ref a101)] [(.int ((Int32.ofNat nl.length) + (16 : Int32))), (.ref ms)])
  rw [show ((Int32.ofNat nl.length) + (16 : Int32)) = (Int32.ofNat (nl.length + 16)) from i32add (b := 16) (by omega)]
  show Run _ _ _ _ _ _ _ _ _ _ _ _ T134 (mkF m 277 #[.val (.ref ms), .val (.int (Int32.ofNat nl.length)), .val (.ref a101)] [(.int (Int32.ofNat (nl.length + 16))), (.ref ms)])
  refine Run.sch hw hS X134 (W := 0) S1 hlm rfl (by rw [List.length_append]; show _ < _ + 32; omega) (wd hw 226 rfl) (wd hw 227 rfl) (wd hw 228 rfl) (wd hw 229 rfl) (wd hw 1 rfl) tad_277 rfl (Nat.le_of_ble_eq_true rfl) (by decide) (by decide) (Nat.le_of_ble_eq_true rfl) (Nat.le_of_ble_eq_true rfl) ?_
  intro T135 X135
  show Run _ _ _ _ _ _ _ _ _ _ _ _ T135 (mkF m 280 #[.val (.ref ms), .val (.int (Int32.ofNat nl.length)), .val (.ref a101)] [(.int ((nl ++ ([58, 32, 116, 104, 101, 32, 118, 97, 114, 105, 97, 98, 108, 101, 32, 104, 97, 115, 32, 110, 111, 32, 118, 97, 108, 117, 101, 32, 104, 101, 114, 101] : List Int32)).getD (nl.length + 16) 0))])
  rw [show ((nl ++ ([58, 32, 116, 104, 101, 32, 118, 97, 114, 105, 97, 98, 108, 101, 32, 104, 97, 115, 32, 110, 111, 32, 118, 97, 108, 117, 101, 32, 104, 101, 114, 101] : List Int32)).getD (nl.length + 16) 0) = (97 : Int32) from getD_app nl _ 16]
  show Run _ _ _ _ _ _ _ _ _ _ _ _ T135 (mkF m 280 #[.val (.ref ms), .val (.int (Int32.ofNat nl.length)), .val (.ref a101)] [(.int (97 : Int32))])
  refine Run.via (fun _ => XS.aloadN X135.at X135.ex rfl (X135.de tad_280) rfl rfl) ?_
  show Run _ _ _ _ _ _ _ _ _ _ _ _ T135 (mkF m 281 #[.val (.ref ms), .val (.int (Int32.ofNat nl.length)), .val (.ref a101)] [(.ref a101), (.int (97 : Int32))])
  refine Run.via (fun _ => XS.bipush X135.at X135.ex rfl (X135.de tad_281)) ?_
  show Run _ _ _ _ _ _ _ _ _ _ _ _ T135 (mkF m 283 #[.val (.ref ms), .val (.int (Int32.ofNat nl.length)), .val (.ref a101)] [(.int (16 : Int32)), (.ref a101), (.int (97 : Int32))])
  refine Run.sch hw hS X135 (W := 1) S101 (fun c q => (latTX c q).2) rfl (by decide) (wd hw 226 rfl) (wd hw 227 rfl) (wd hw 228 rfl) (wd hw 229 rfl) (wd hw 1 rfl) tad_283 rfl (Nat.le_of_ble_eq_true rfl) (by decide) (by decide) (Nat.le_of_ble_eq_true rfl) (Nat.le_of_ble_eq_true rfl) ?_
  intro T136 X136
  show Run _ _ _ _ _ _ _ _ _ _ _ _ T136 (mkF m 286 #[.val (.ref ms), .val (.int (Int32.ofNat nl.length)), .val (.ref a101)] [(.int (97 : Int32)), (.int (97 : Int32))])
  refine Run.via (fun _ => XS.icmpNo X136.at X136.ex rfl (X136.de tad_286) rfl (teq (by decide : ((97 : Int32) = (97 : Int32)))).2) ?_
  show Run _ _ _ _ _ _ _ _ _ _ _ _ T136 (mkF m 289 #[.val (.ref ms), .val (.int (Int32.ofNat nl.length)), .val (.ref a101)] [])
  refine Run.via (fun _ => XS.aloadN X136.at X136.ex rfl (X136.de tad_289) rfl rfl) ?_
  show Run _ _ _ _ _ _ _ _ _ _ _ _ T136 (mkF m 290 #[.val (.ref ms), .val (.int (Int32.ofNat nl.length)), .val (.ref a101)] [(.ref ms)])
  refine Run.via (fun _ => XS.iloadN X136.at X136.ex rfl (X136.de tad_290) rfl) ?_
  show Run _ _ _ _ _ _ _ _ _ _ _ _ T136 (mkF m 291 #[.val (.ref ms), .val (.int (Int32.ofNat nl.length)), .val (.ref a101)] [(.int (Int32.ofNat nl.length)), (.ref ms)])
  refine Run.via (fun _ => XS.bipush X136.at X136.ex rfl (X136.de tad_291)) ?_
  show Run _ _ _ _ _ _ _ _ _ _ _ _ T136 (mkF m 293 #[.val (.ref ms), .val (.int (Int32.ofNat nl.length)), .val (.ref a101)] [(.int (17 : Int32)), (.int (Int32.ofNat nl.length)), (.ref ms)])
  refine Run.via (fun _ => XS.iadd X136.at X136.ex rfl (X136.de tad_293) rfl) ?_
  show Run _ _ _ _ _ _ _ _ _ _ _ _ T136 (mkF m 294 #[.val (.ref ms), .val (.int (Int32.ofNat nl.length)), .val (.ref a101)] [(.int ((Int32.ofNat nl.length) + (17 : Int32))), (.ref ms)])
  rw [show ((Int32.ofNat nl.length) + (17 : Int32)) = (Int32.ofNat (nl.length + 17)) from i32add (b := 17) (by omega)]
  show Run _ _ _ _ _ _ _ _ _ _ _ _ T136 (mkF m 294 #[.val (.ref ms), .val (.int (Int32.ofNat nl.length)), .val (.ref a101)] [(.int (Int32.ofNat (nl.length + 17))), (.ref ms)])
  refine Run.sch hw hS X136 (W := 0) S1 hlm rfl (by rw [List.length_append]; show _ < _ + 32; omega) (wd hw 226 rfl) (wd hw 227 rfl) (wd hw 228 rfl) (wd hw 229 rfl) (wd hw 1 rfl) tad_294 rfl (Nat.le_of_ble_eq_true rfl) (by decide) (by decide) (Nat.le_of_ble_eq_true rfl) (Nat.le_of_ble_eq_true rfl) ?_
  intro T137 X137
  show Run _ _ _ _ _ _ _ _ _ _ _ _ T137 (mkF m 297 #[.val (.ref ms), .val (.int (Int32.ofNat nl.length)), .val (.ref a101)] [(.int ((nl ++ ([58, 32, 116, 104, 101, 32, 118, 97, 114, 105, 97, 98, 108, 101, 32, 104, 97, 115, 32, 110, 111, 32, 118, 97, 108, 117, 101, 32, 104, 101, 114, 101] : List Int32)).getD (nl.length + 17) 0))])
  rw [show ((nl ++ ([58, 32, 116, 104, 101, 32, 118, 97, 114, 105, 97, 98, 108, 101, 32, 104, 97, 115, 32, 110, 111, 32, 118, 97, 108, 117, 101, 32, 104, 101, 114, 101] : List Int32)).getD (nl.length + 17) 0) = (115 : Int32) from getD_app nl _ 17]
  show Run _ _ _ _ _ _ _ _ _ _ _ _ T137 (mkF m 297 #[.val (.ref ms), .val (.int (Int32.ofNat nl.length)), .val (.ref a101)] [(.int (115 : Int32))])
  refine Run.via (fun _ => XS.aloadN X137.at X137.ex rfl (X137.de tad_297) rfl rfl) ?_
  show Run _ _ _ _ _ _ _ _ _ _ _ _ T137 (mkF m 298 #[.val (.ref ms), .val (.int (Int32.ofNat nl.length)), .val (.ref a101)] [(.ref a101), (.int (115 : Int32))])
  refine Run.via (fun _ => XS.bipush X137.at X137.ex rfl (X137.de tad_298)) ?_
  show Run _ _ _ _ _ _ _ _ _ _ _ _ T137 (mkF m 300 #[.val (.ref ms), .val (.int (Int32.ofNat nl.length)), .val (.ref a101)] [(.int (17 : Int32)), (.ref a101), (.int (115 : Int32))])
  refine Run.sch hw hS X137 (W := 1) S101 (fun c q => (latTX c q).2) rfl (by decide) (wd hw 226 rfl) (wd hw 227 rfl) (wd hw 228 rfl) (wd hw 229 rfl) (wd hw 1 rfl) tad_300 rfl (Nat.le_of_ble_eq_true rfl) (by decide) (by decide) (Nat.le_of_ble_eq_true rfl) (Nat.le_of_ble_eq_true rfl) ?_
  intro T138 X138
  show Run _ _ _ _ _ _ _ _ _ _ _ _ T138 (mkF m 303 #[.val (.ref ms), .val (.int (Int32.ofNat nl.length)), .val (.ref a101)] [(.int (115 : Int32)), (.int (115 : Int32))])
  refine Run.via (fun _ => XS.icmpNo X138.at X138.ex rfl (X138.de tad_303) rfl (teq (by decide : ((115 : Int32) = (115 : Int32)))).2) ?_
  show Run _ _ _ _ _ _ _ _ _ _ _ _ T138 (mkF m 306 #[.val (.ref ms), .val (.int (Int32.ofNat nl.length)), .val (.ref a101)] [])
  refine Run.via (fun _ => XS.aloadN X138.at X138.ex rfl (X138.de tad_306) rfl rfl) ?_
  show Run _ _ _ _ _ _ _ _ _ _ _ _ T138 (mkF m 307 #[.val (.ref ms), .val (.int (Int32.ofNat nl.length)), .val (.ref a101)] [(.ref ms)])
  refine Run.via (fun _ => XS.iloadN X138.at X138.ex rfl (X138.de tad_307) rfl) ?_
  show Run _ _ _ _ _ _ _ _ _ _ _ _ T138 (mkF m 308 #[.val (.ref ms), .val (.int (Int32.ofNat nl.length)), .val (.ref a101)] [(.int (Int32.ofNat nl.length)), (.ref ms)])
  refine Run.via (fun _ => XS.bipush X138.at X138.ex rfl (X138.de tad_308)) ?_
  show Run _ _ _ _ _ _ _ _ _ _ _ _ T138 (mkF m 310 #[.val (.ref ms), .val (.int (Int32.ofNat nl.length)), .val (.ref a101)] [(.int (18 : Int32)), (.int (Int32.ofNat nl.length)), (.ref ms)])
  refine Run.via (fun _ => XS.iadd X138.at X138.ex rfl (X138.de tad_310) rfl) ?_
  show Run _ _ _ _ _ _ _ _ _ _ _ _ T138 (mkF m 311 #[.val (.ref ms), .val (.int (Int32.ofNat nl.length)), .val (.ref a101)] [(.int ((Int32.ofNat nl.length) + (18 : Int32))), (.ref ms)])
  rw [show ((Int32.ofNat nl.length) + (18 : Int32)) = (Int32.ofNat (nl.length + 18)) from i32add (b := 18) (by omega)]
  show Run _ _ _ _ _ _ _ _ _ _ _ _ T138 (mkF m 311 #[.val (.ref ms), .val (.int (Int32.ofNat nl.length)), .val (.ref a101)] [(.int (Int32.ofNat (nl.length + 18))), (.ref ms)])
  refine Run.sch hw hS X138 (W := 0) S1 hlm rfl (by rw [List.length_append]; show _ < _ + 32; omega) (wd hw 226 rfl) (wd hw 227 rfl) (wd hw 228 rfl) (wd hw 229 rfl) (wd hw 1 rfl) tad_311 rfl (Nat.le_of_ble_eq_true rfl) (by decide) (by decide) (Nat.le_of_ble_eq_true rfl) (Nat.le_of_ble_eq_true rfl) ?_
  intro T139 X139
  show Run _ _ _ _ _ _ _ _ _ _ _ _ T139 (mkF m 314 #[.val (.ref ms), .val (.int (Int32.ofNat nl.length)), .val (.ref a101)] [(.int ((nl ++ ([58, 32, 116, 104, 101, 32, 118, 97, 114, 105, 97, 98, 108, 101, 32, 104, 97, 115, 32, 110, 111, 32, 118, 97, 108, 117, 101, 32, 104, 101, 114, 101] : List Int32)).getD (nl.length + 18) 0))])
  rw [show ((nl ++ ([58, 32, 116, 104, 101, 32, 118, 97, 114, 105, 97, 98, 108, 101, 32, 104, 97, 115, 32, 110, 111, 32, 118, 97, 108, 117, 101, 32, 104, 101, 114, 101] : List Int32)).getD (nl.length + 18) 0) = (32 : Int32) from getD_app nl _ 18]
  show Run _ _ _ _ _ _ _ _ _ _ _ _ T139 (mkF m 314 #[.val (.ref ms), .val (.int (Int32.ofNat nl.length)), .val (.ref a101)] [(.int (32 : Int32))])
  refine Run.via (fun _ => XS.aloadN X139.at X139.ex rfl (X139.de tad_314) rfl rfl) ?_
  show Run _ _ _ _ _ _ _ _ _ _ _ _ T139 (mkF m 315 #[.val (.ref ms), .val (.int (Int32.ofNat nl.length)), .val (.ref a101)] [(.ref a101), (.int (32 : Int32))])
  refine Run.via (fun _ => XS.bipush X139.at X139.ex rfl (X139.de tad_315)) ?_
  show Run _ _ _ _ _ _ _ _ _ _ _ _ T139 (mkF m 317 #[.val (.ref ms), .val (.int (Int32.ofNat nl.length)), .val (.ref a101)] [(.int (18 : Int32)), (.ref a101), (.int (32 : Int32))])
  refine Run.sch hw hS X139 (W := 1) S101 (fun c q => (latTX c q).2) rfl (by decide) (wd hw 226 rfl) (wd hw 227 rfl) (wd hw 228 rfl) (wd hw 229 rfl) (wd hw 1 rfl) tad_317 rfl (Nat.le_of_ble_eq_true rfl) (by decide) (by decide) (Nat.le_of_ble_eq_true rfl) (Nat.le_of_ble_eq_true rfl) ?_
  intro T140 X140
  show Run _ _ _ _ _ _ _ _ _ _ _ _ T140 (mkF m 320 #[.val (.ref ms), .val (.int (Int32.ofNat nl.length)), .val (.ref a101)] [(.int (32 : Int32)), (.int (32 : Int32))])
  refine Run.via (fun _ => XS.icmpNo X140.at X140.ex rfl (X140.de tad_320) rfl (teq (by decide : ((32 : Int32) = (32 : Int32)))).2) ?_
  show Run _ _ _ _ _ _ _ _ _ _ _ _ T140 (mkF m 323 #[.val (.ref ms), .val (.int (Int32.ofNat nl.length)), .val (.ref a101)] [])
  refine Run.via (fun _ => XS.aloadN X140.at X140.ex rfl (X140.de tad_323) rfl rfl) ?_
  show Run _ _ _ _ _ _ _ _ _ _ _ _ T140 (mkF m 324 #[.val (.ref ms), .val (.int (Int32.ofNat nl.length)), .val (.ref a101)] [(.ref ms)])
  refine Run.via (fun _ => XS.iloadN X140.at X140.ex rfl (X140.de tad_324) rfl) ?_
  show Run _ _ _ _ _ _ _ _ _ _ _ _ T140 (mkF m 325 #[.val (.ref ms), .val (.int (Int32.ofNat nl.length)), .val (.ref a101)] [(.int (Int32.ofNat nl.length)), (.ref ms)])
  refine Run.via (fun _ => XS.bipush X140.at X140.ex rfl (X140.de tad_325)) ?_
  show Run _ _ _ _ _ _ _ _ _ _ _ _ T140 (mkF m 327 #[.val (.ref ms), .val (.int (Int32.ofNat nl.length)), .val (.ref a101)] [(.int (19 : Int32)), (.int (Int32.ofNat nl.length)), (.ref ms)])
  refine Run.via (fun _ => XS.iadd X140.at X140.ex rfl (X140.de tad_327) rfl) ?_
  show Run _ _ _ _ _ _ _ _ _ _ _ _ T140 (mkF m 328 #[.val (.ref ms), .val (.int (Int32.ofNat nl.length)), .val (.ref a101)] [(.int ((Int32.ofNat nl.length) + (19 : Int32))), (.ref ms)])
  rw [show ((Int32.ofNat nl.length) + (19 : Int32)) = (Int32.ofNat (nl.length + 19)) from i32add (b := 19) (by omega)]
  show Run _ _ _ _ _ _ _ _ _ _ _ _ T140 (mkF m 328 #[.val (.ref ms), .val (.int (Int32.ofNat nl.length)), .val (.ref a101)] [(.int (Int32.ofNat (nl.length + 19))), (.ref ms)])
  refine Run.sch hw hS X140 (W := 0) S1 hlm rfl (by rw [List.length_append]; show _ < _ + 32; omega) (wd hw 226 rfl) (wd hw 227 rfl) (wd hw 228 rfl) (wd hw 229 rfl) (wd hw 1 rfl) tad_328 rfl (Nat.le_of_ble_eq_true rfl) (by decide) (by decide) (Nat.le_of_ble_eq_true rfl) (Nat.le_of_ble_eq_true rfl) ?_
  intro T141 X141
  show Run _ _ _ _ _ _ _ _ _ _ _ _ T141 (mkF m 331 #[.val (.ref ms), .val (.int (Int32.ofNat nl.length)), .val (.ref a101)] [(.int ((nl ++ ([58, 32, 116, 104, 101, 32, 118, 97, 114, 105, 97, 98, 108, 101, 32, 104, 97, 115, 32, 110, 111, 32, 118, 97, 108, 117, 101, 32, 104, 101, 114, 101] : List Int32)).getD (nl.length + 19) 0))])
  rw [show ((nl ++ ([58, 32, 116, 104, 101, 32, 118, 97, 114, 105, 97, 98, 108, 101, 32, 104, 97, 115, 32, 110, 111, 32, 118, 97, 108, 117, 101, 32, 104, 101, 114, 101] : List Int32)).getD (nl.length + 19) 0) = (110 : Int32) from getD_app nl _ 19]
  show Run _ _ _ _ _ _ _ _ _ _ _ _ T141 (mkF m 331 #[.val (.ref ms), .val (.int (Int32.ofNat nl.length)), .val (.ref a101)] [(.int (110 : Int32))])
  refine Run.via (fun _ => XS.aloadN X141.at X141.ex rfl (X141.de tad_331) rfl rfl) ?_
  show Run _ _ _ _ _ _ _ _ _ _ _ _ T141 (mkF m 332 #[.val (.ref ms), .val (.int (Int32.ofNat nl.length)), .val (.ref a101)] [(.ref a101), (.int (110 : Int32))])
  refine Run.via (fun _ => XS.bipush X141.at X141.ex rfl (X141.de tad_332)) ?_
  show Run _ _ _ _ _ _ _ _ _ _ _ _ T141 (mkF m 334 #[.val (.ref ms), .val (.int (Int32.ofNat nl.length)), .val (.ref a101)] [(.int (19 : Int32)), (.ref a101), (.int (110 : Int32))])
  refine Run.sch hw hS X141 (W := 1) S101 (fun c q => (latTX c q).2) rfl (by decide) (wd hw 226 rfl) (wd hw 227 rfl) (wd hw 228 rfl) (wd hw 229 rfl) (wd hw 1 rfl) tad_334 rfl (Nat.le_of_ble_eq_true rfl) (by decide) (by decide) (Nat.le_of_ble_eq_true rfl) (Nat.le_of_ble_eq_true rfl) ?_
  intro T142 X142
  show Run _ _ _ _ _ _ _ _ _ _ _ _ T142 (mkF m 337 #[.val (.ref ms), .val (.int (Int32.ofNat nl.length)), .val (.ref a101)] [(.int (110 : Int32)), (.int (110 : Int32))])
  refine Run.via (fun _ => XS.icmpNo X142.at X142.ex rfl (X142.de tad_337) rfl (teq (by decide : ((110 : Int32) = (110 : Int32)))).2) ?_
  show Run _ _ _ _ _ _ _ _ _ _ _ _ T142 (mkF m 340 #[.val (.ref ms), .val (.int (Int32.ofNat nl.length)), .val (.ref a101)] [])
  refine Run.via (fun _ => XS.aloadN X142.at X142.ex rfl (X142.de tad_340) rfl rfl) ?_
  show Run _ _ _ _ _ _ _ _ _ _ _ _ T142 (mkF m 341 #[.val (.ref ms), .val (.int (Int32.ofNat nl.length)), .val (.ref a101)] [(.ref ms)])
  refine Run.via (fun _ => XS.iloadN X142.at X142.ex rfl (X142.de tad_341) rfl) ?_
  show Run _ _ _ _ _ _ _ _ _ _ _ _ T142 (mkF m 342 #[.val (.ref ms), .val (.int (Int32.ofNat nl.length)), .val (.ref a101)] [(.int (Int32.ofNat nl.length)), (.ref ms)])
  refine Run.via (fun _ => XS.bipush X142.at X142.ex rfl (X142.de tad_342)) ?_
  show Run _ _ _ _ _ _ _ _ _ _ _ _ T142 (mkF m 344 #[.val (.ref ms), .val (.int (Int32.ofNat nl.length)), .val (.ref a101)] [(.int (20 : Int32)), (.int (Int32.ofNat nl.length)), (.ref ms)])
  refine Run.via (fun _ => XS.iadd X142.at X142.ex rfl (X142.de tad_344) rfl) ?_
  show Run _ _ _ _ _ _ _ _ _ _ _ _ T142 (mkF m 345 #[.val (.ref ms), .val (.int (Int32.ofNat nl.length)), .val (.ref a101)] [(.int ((Int32.ofNat nl.length) + (20 : Int32))), (.ref ms)])
  rw [show ((Int32.ofNat nl.length) + (20 : Int32)) = (Int32.ofNat (nl.length + 20)) from i32add (b := 20) (by omega)]
  show Run _ _ _ _ _ _ _ _ _ _ _ _ T142 (mkF m 345 #[.val (.ref ms), .val (.int (Int32.ofNat nl.length)), .val (.ref a101)] [(.int (Int32.ofNat (nl.length + 20))), (.ref ms)])
  refine Run.sch hw hS X142 (W := 0) S1 hlm rfl (by rw [List.length_append]; show _ < _ + 32; omega) (wd hw 226 rfl) (wd hw 227 rfl) (wd hw 228 rfl) (wd hw 229 rfl) (wd hw 1 rfl) tad_345 rfl (Nat.le_of_ble_eq_true rfl) (by decide) (by decide) (Nat.le_of_ble_eq_true rfl) (Nat.le_of_ble_eq_true rfl) ?_
  intro T143 X143
  show Run _ _ _ _ _ _ _ _ _ _ _ _ T143 (mkF m 348 #[.val (.ref ms), .val (.int (Int32.ofNat nl.length)), .val (.ref a101)] [(.int ((nl ++ ([58, 32, 116, 104, 101, 32, 118, 97, 114, 105, 97, 98, 108, 101, 32, 104, 97, 115, 32, 110, 111, 32, 118, 97, 108, 117, 101, 32, 104, 101, 114, 101] : List Int32)).getD (nl.length + 20) 0))])
  rw [show ((nl ++ ([58, 32, 116, 104, 101, 32, 118, 97, 114, 105, 97, 98, 108, 101, 32, 104, 97, 115, 32, 110, 111, 32, 118, 97, 108, 117, 101, 32, 104, 101, 114, 101] : List Int32)).getD (nl.length + 20) 0) = (111 : Int32) from getD_app nl _ 20]
  show Run _ _ _ _ _ _ _ _ _ _ _ _ T143 (mkF m 348 #[.val (.ref ms), .val (.int (Int32.ofNat nl.length)), .val (.ref a101)] [(.int (111 : Int32))])
  refine Run.via (fun _ => XS.aloadN X143.at X143.ex rfl (X143.de tad_348) rfl rfl) ?_
  show Run _ _ _ _ _ _ _ _ _ _ _ _ T143 (mkF m 349 #[.val (.ref ms), .val (.int (Int32.ofNat nl.length)), .val (.ref a101)] [(.ref a101), (.int (111 : Int32))])
  refine Run.via (fun _ => XS.bipush X143.at X143.ex rfl (X143.de tad_349)) ?_
  show Run _ _ _ _ _ _ _ _ _ _ _ _ T143 (mkF m 351 #[.val (.ref ms), .val (.int (Int32.ofNat nl.length)), .val (.ref a101)] [(.int (20 : Int32)), (.ref a101), (.int (111 : Int32))])
  refine Run.sch hw hS X143 (W := 1) S101 (fun c q => (latTX c q).2) rfl (by decide) (wd hw 226 rfl) (wd hw 227 rfl) (wd hw 228 rfl) (wd hw 229 rfl) (wd hw 1 rfl) tad_351 rfl (Nat.le_of_ble_eq_true rfl) (by decide) (by decide) (Nat.le_of_ble_eq_true rfl) (Nat.le_of_ble_eq_true rfl) ?_
  intro T144 X144
  show Run _ _ _ _ _ _ _ _ _ _ _ _ T144 (mkF m 354 #[.val (.ref ms), .val (.int (Int32.ofNat nl.length)), .val (.ref a101)] [(.int (111 : Int32)), (.int (111 : Int32))])
  refine Run.via (fun _ => XS.icmpNo X144.at X144.ex rfl (X144.de tad_354) rfl (teq (by decide : ((111 : Int32) = (111 : Int32)))).2) ?_
  show Run _ _ _ _ _ _ _ _ _ _ _ _ T144 (mkF m 357 #[.val (.ref ms), .val (.int (Int32.ofNat nl.length)), .val (.ref a101)] [])
  refine Run.via (fun _ => XS.aloadN X144.at X144.ex rfl (X144.de tad_357) rfl rfl) ?_
  show Run _ _ _ _ _ _ _ _ _ _ _ _ T144 (mkF m 358 #[.val (.ref ms), .val (.int (Int32.ofNat nl.length)), .val (.ref a101)] [(.ref ms)])
  refine Run.via (fun _ => XS.iloadN X144.at X144.ex rfl (X144.de tad_358) rfl) ?_
  show Run _ _ _ _ _ _ _ _ _ _ _ _ T144 (mkF m 359 #[.val (.ref ms), .val (.int (Int32.ofNat nl.length)), .val (.ref a101)] [(.int (Int32.ofNat nl.length)), (.ref ms)])
  refine Run.via (fun _ => XS.bipush X144.at X144.ex rfl (X144.de tad_359)) ?_
  show Run _ _ _ _ _ _ _ _ _ _ _ _ T144 (mkF m 361 #[.val (.ref ms), .val (.int (Int32.ofNat nl.length)), .val (.ref a101)] [(.int (21 : Int32)), (.int (Int32.ofNat nl.length)), (.ref ms)])
  refine Run.via (fun _ => XS.iadd X144.at X144.ex rfl (X144.de tad_361) rfl) ?_
  show Run _ _ _ _ _ _ _ _ _ _ _ _ T144 (mkF m 362 #[.val (.ref ms), .val (.int (Int32.ofNat nl.length)), .val (.ref a101)] [(.int ((Int32.ofNat nl.length) + (21 : Int32))), (.ref ms)])
  rw [show ((Int32.ofNat nl.length) + (21 : Int32)) = (Int32.ofNat (nl.length + 21)) from i32add (b := 21) (by omega)]
  show Run _ _ _ _ _ _ _ _ _ _ _ _ T144 (mkF m 362 #[.val (.ref ms), .val (.int (Int32.ofNat nl.length)), .val (.ref a101)] [(.int (Int32.ofNat (nl.length + 21))), (.ref ms)])
  refine Run.sch hw hS X144 (W := 0) S1 hlm rfl (by rw [List.length_append]; show _ < _ + 32; omega) (wd hw 226 rfl) (wd hw 227 rfl) (wd hw 228 rfl) (wd hw 229 rfl) (wd hw 1 rfl) tad_362 rfl (Nat.le_of_ble_eq_true rfl) (by decide) (by decide) (Nat.le_of_ble_eq_true rfl) (Nat.le_of_ble_eq_true rfl) ?_
  intro T145 X145
  show Run _ _ _ _ _ _ _ _ _ _ _ _ T145 (mkF m 365 #[.val (.ref ms), .val (.int (Int32.ofNat nl.length)), .val (.ref a101)] [(.int ((nl ++ ([58, 32, 116, 104, 101, 32, 118, 97, 114, 105, 97, 98, 108, 101, 32, 104, 97, 115, 32, 110, 111, 32, 118, 97, 108, 117, 101, 32, 104, 101, 114, 101] : List Int32)).getD (nl.length + 21) 0))])
  rw [show ((nl ++ ([58, 32, 116, 104, 101, 32, 118, 97, 114, 105, 97, 98, 108, 101, 32, 104, 97, 115, 32, 110, 111, 32, 118, 97, 108, 117, 101, 32, 104, 101, 114, 101] : List Int32)).getD (nl.length + 21) 0) = (32 : Int32) from getD_app nl _ 21]
  show Run _ _ _ _ _ _ _ _ _ _ _ _ T145 (mkF m 365 #[.val (.ref ms), .val (.int (Int32.ofNat nl.length)), .val (.ref a101)] [(.int (32 : Int32))])
  refine Run.via (fun _ => XS.aloadN X145.at X145.ex rfl (X145.de tad_365) rfl rfl) ?_
  show Run _ _ _ _ _ _ _ _ _ _ _ _ T145 (mkF m 366 #[.val (.ref ms), .val (.int (Int32.ofNat nl.length)), .val (.ref a101)] [(.ref a101), (.int (32 : Int32))])
  refine Run.via (fun _ => XS.bipush X145.at X145.ex rfl (X145.de tad_366)) ?_
  show Run _ _ _ _ _ _ _ _ _ _ _ _ T145 (mkF m 368 #[.val (.ref ms), .val (.int (Int32.ofNat nl.length)), .val (.ref a101)] [(.int (21 : Int32)), (.ref a101), (.int (32 : Int32))])
  refine Run.sch hw hS X145 (W := 1) S101 (fun c q => (latTX c q).2) rfl (by decide) (wd hw 226 rfl) (wd hw 227 rfl) (wd hw 228 rfl) (wd hw 229 rfl) (wd hw 1 rfl) tad_368 rfl (Nat.le_of_ble_eq_true rfl) (by decide) (by decide) (Nat.le_of_ble_eq_true rfl) (Nat.le_of_ble_eq_true rfl) ?_
  intro T146 X146
  show Run _ _ _ _ _ _ _ _ _ _ _ _ T146 (mkF m 371 #[.val (.ref ms), .val (.int (Int32.ofNat nl.length)), .val (.ref a101)] [(.int (32 : Int32)), (.int (32 : Int32))])
  refine Run.via (fun _ => XS.icmpNo X146.at X146.ex rfl (X146.de tad_371) rfl (teq (by decide : ((32 : Int32) = (32 : Int32)))).2) ?_
  show Run _ _ _ _ _ _ _ _ _ _ _ _ T146 (mkF m 374 #[.val (.ref ms), .val (.int (Int32.ofNat nl.length)), .val (.ref a101)] [])
  refine Run.via (fun _ => XS.aloadN X146.at X146.ex rfl (X146.de tad_374) rfl rfl) ?_
  show Run _ _ _ _ _ _ _ _ _ _ _ _ T146 (mkF m 375 #[.val (.ref ms), .val (.int (Int32.ofNat nl.length)), .val (.ref a101)] [(.ref ms)])
  refine Run.via (fun _ => XS.iloadN X146.at X146.ex rfl (X146.de tad_375) rfl) ?_
  show Run _ _ _ _ _ _ _ _ _ _ _ _ T146 (mkF m 376 #[.val (.ref ms), .val (.int (Int32.ofNat nl.length)), .val (.ref a101)] [(.int (Int32.ofNat nl.length)), (.ref ms)])
  refine Run.via (fun _ => XS.bipush X146.at X146.ex rfl (X146.de tad_376)) ?_
  show Run _ _ _ _ _ _ _ _ _ _ _ _ T146 (mkF m 378 #[.val (.ref ms), .val (.int (Int32.ofNat nl.length)), .val (.ref a101)] [(.int (22 : Int32)), (.int (Int32.ofNat nl.length)), (.ref ms)])
  refine Run.via (fun _ => XS.iadd X146.at X146.ex rfl (X146.de tad_378) rfl) ?_
  show Run _ _ _ _ _ _ _ _ _ _ _ _ T146 (mkF m 379 #[.val (.ref ms), .val (.int (Int32.ofNat nl.length)), .val (.ref a101)] [(.int ((Int32.ofNat nl.length) + (22 : Int32))), (.ref ms)])
  rw [show ((Int32.ofNat nl.length) + (22 : Int32)) = (Int32.ofNat (nl.length + 22)) from i32add (b := 22) (by omega)]
  show Run _ _ _ _ _ _ _ _ _ _ _ _ T146 (mkF m 379 #[.val (.ref ms), .val (.int (Int32.ofNat nl.length)), .val (.ref a101)] [(.int (Int32.ofNat (nl.length + 22))), (.ref ms)])
  refine Run.sch hw hS X146 (W := 0) S1 hlm rfl (by rw [List.length_append]; show _ < _ + 32; omega) (wd hw 226 rfl) (wd hw 227 rfl) (wd hw 228 rfl) (wd hw 229 rfl) (wd hw 1 rfl) tad_379 rfl (Nat.le_of_ble_eq_true rfl) (by decide) (by decide) (Nat.le_of_ble_eq_true rfl) (Nat.le_of_ble_eq_true rfl) ?_
  intro T147 X147
  show Run _ _ _ _ _ _ _ _ _ _ _ _ T147 (mkF m 382 #[.val (.ref ms), .val (.int (Int32.ofNat nl.length)), .val (.ref a101)] [(.int ((nl ++ ([58, 32, 116, 104, 101, 32, 118, 97, 114, 105, 97, 98, 108, 101, 32, 104, 97, 115, 32, 110, 111, 32, 118, 97, 108, 117, 101, 32, 104, 101, 114, 101] : List Int32)).getD (nl.length + 22) 0))])
  rw [show ((nl ++ ([58, 32, 116, 104, 101, 32, 118, 97, 114, 105, 97, 98, 108, 101, 32, 104, 97, 115, 32, 110, 111, 32, 118, 97, 108, 117, 101, 32, 104, 101, 114, 101] : List Int32)).getD (nl.length + 22) 0) = (118 : Int32) from getD_app nl _ 22]
  show Run _ _ _ _ _ _ _ _ _ _ _ _ T147 (mkF m 382 #[.val (.ref ms), .val (.int (Int32.ofNat nl.length)), .val (.ref a101)] [(.int (118 : Int32))])
  refine Run.via (fun _ => XS.aloadN X147.at X147.ex rfl (X147.de tad_382) rfl rfl) ?_
  show Run _ _ _ _ _ _ _ _ _ _ _ _ T147 (mkF m 383 #[.val (.ref ms), .val (.int (Int32.ofNat nl.length)), .val (.ref a101)] [(.ref a101), (.int (118 : Int32))])
  refine Run.via (fun _ => XS.bipush X147.at X147.ex rfl (X147.de tad_383)) ?_
  show Run _ _ _ _ _ _ _ _ _ _ _ _ T147 (mkF m 385 #[.val (.ref ms), .val (.int (Int32.ofNat nl.length)), .val (.ref a101)] [(.int (22 : Int32)), (.ref a101), (.int (118 : Int32))])
  refine Run.sch hw hS X147 (W := 1) S101 (fun c q => (latTX c q).2) rfl (by decide) (wd hw 226 rfl) (wd hw 227 rfl) (wd hw 228 rfl) (wd hw 229 rfl) (wd hw 1 rfl) tad_385 rfl (Nat.le_of_ble_eq_true rfl) (by decide) (by decide) (Nat.le_of_ble_eq_true rfl) (Nat.le_of_ble_eq_true rfl) ?_
  intro T148 X148
  show Run _ _ _ _ _ _ _ _ _ _ _ _ T148 (mkF m 388 #[.val (.ref ms), .val (.int (Int32.ofNat nl.length)), .val (.ref a101)] [(.int (118 : Int32)), (.int (118 : Int32))])
  refine Run.via (fun _ => XS.icmpNo X148.at X148.ex rfl (X148.de tad_388) rfl (teq (by decide : ((118 : Int32) = (118 : Int32)))).2) ?_
  show Run _ _ _ _ _ _ _ _ _ _ _ _ T148 (mkF m 391 #[.val (.ref ms), .val (.int (Int32.ofNat nl.length)), .val (.ref a101)] [])
  refine Run.via (fun _ => XS.aloadN X148.at X148.ex rfl (X148.de tad_391) rfl rfl) ?_
  show Run _ _ _ _ _ _ _ _ _ _ _ _ T148 (mkF m 392 #[.val (.ref ms), .val (.int (Int32.ofNat nl.length)), .val (.ref a101)] [(.ref ms)])
  refine Run.via (fun _ => XS.iloadN X148.at X148.ex rfl (X148.de tad_392) rfl) ?_
  show Run _ _ _ _ _ _ _ _ _ _ _ _ T148 (mkF m 393 #[.val (.ref ms), .val (.int (Int32.ofNat nl.length)), .val (.ref a101)] [(.int (Int32.ofNat nl.length)), (.ref ms)])
  refine Run.via (fun _ => XS.bipush X148.at X148.ex rfl (X148.de tad_393)) ?_
  show Run _ _ _ _ _ _ _ _ _ _ _ _ T148 (mkF m 395 #[.val (.ref ms), .val (.int (Int32.ofNat nl.length)), .val (.ref a101)] [(.int (23 : Int32)), (.int (Int32.ofNat nl.length)), (.ref ms)])
  refine Run.via (fun _ => XS.iadd X148.at X148.ex rfl (X148.de tad_395) rfl) ?_
  show Run _ _ _ _ _ _ _ _ _ _ _ _ T148 (mkF m 396 #[.val (.ref ms), .val (.int (Int32.ofNat nl.length)), .val (.ref a101)] [(.int ((Int32.ofNat nl.length) + (23 : Int32))), (.ref ms)])
  rw [show ((Int32.ofNat nl.length) + (23 : Int32)) = (Int32.ofNat (nl.length + 23)) from i32add (b := 23) (by omega)]
  show Run _ _ _ _ _ _ _ _ _ _ _ _ T148 (mkF m 396 #[.val (.ref ms), .val (.int (Int32.ofNat nl.length)), .val (.ref a101)] [(.int (Int32.ofNat (nl.length + 23))), (.ref ms)])
  refine Run.sch hw hS X148 (W := 0) S1 hlm rfl (by rw [List.length_append]; show _ < _ + 32; omega) (wd hw 226 rfl) (wd hw 227 rfl) (wd hw 228 rfl) (wd hw 229 rfl) (wd hw 1 rfl) tad_396 rfl (Nat.le_of_ble_eq_true rfl) (by decide) (by decide) (Nat.le_of_ble_eq_true rfl) (Nat.le_of_ble_eq_true rfl) ?_
  intro T149 X149
  show Run _ _ _ _ _ _ _ _ _ _ _ _ T149 (mkF m 399 #[.val (.ref ms), .val (.int (Int32.ofNat nl.length)), .val (.ref a101)] [(.int ((nl ++ ([58, 32, 116, 104, 101, 32, 118, 97, 114, 105, 97, 98, 108, 101, 32, 104, 97, 115, 32, 110, 111, 32, 118, 97, 108, 117, 101, 32, 104, 101, 114, 101] : List Int32)).getD (nl.length + 23) 0))])
  rw [show ((nl ++ ([58, 32, 116, 104, 101, 32, 118, 97, 114, 105, 97, 98, 108, 101, 32, 104, 97, 115, 32, 110, 111, 32, 118, 97, 108, 117, 101, 32, 104, 101, 114, 101] : List Int32)).getD (nl.length + 23) 0) = (97 : Int32) from getD_app nl _ 23]
  show Run _ _ _ _ _ _ _ _ _ _ _ _ T149 (mkF m 399 #[.val (.ref ms), .val (.int (Int32.ofNat nl.length)), .val (.ref a101)] [(.int (97 : Int32))])
  refine Run.via (fun _ => XS.aloadN X149.at X149.ex rfl (X149.de tad_399) rfl rfl) ?_
  show Run _ _ _ _ _ _ _ _ _ _ _ _ T149 (mkF m 400 #[.val (.ref ms), .val (.int (Int32.ofNat nl.length)), .val (.ref a101)] [(.ref a101), (.int (97 : Int32))])
  refine Run.via (fun _ => XS.bipush X149.at X149.ex rfl (X149.de tad_400)) ?_
  show Run _ _ _ _ _ _ _ _ _ _ _ _ T149 (mkF m 402 #[.val (.ref ms), .val (.int (Int32.ofNat nl.length)), .val (.ref a101)] [(.int (23 : Int32)), (.ref a101), (.int (97 : Int32))])
  refine Run.sch hw hS X149 (W := 1) S101 (fun c q => (latTX c q).2) rfl (by decide) (wd hw 226 rfl) (wd hw 227 rfl) (wd hw 228 rfl) (wd hw 229 rfl) (wd hw 1 rfl) tad_402 rfl (Nat.le_of_ble_eq_true rfl) (by decide) (by decide) (Nat.le_of_ble_eq_true rfl) (Nat.le_of_ble_eq_true rfl) ?_
  intro T150 X150
  show Run _ _ _ _ _ _ _ _ _ _ _ _ T150 (mkF m 405 #[.val (.ref ms), .val (.int (Int32.ofNat nl.length)), .val (.ref a101)] [(.int (97 : Int32)), (.int (97 : Int32))])
  refine Run.via (fun _ => XS.icmpNo X150.at X150.ex rfl (X150.de tad_405) rfl (teq (by decide : ((97 : Int32) = (97 : Int32)))).2) ?_
  show Run _ _ _ _ _ _ _ _ _ _ _ _ T150 (mkF m 408 #[.val (.ref ms), .val (.int (Int32.ofNat nl.length)), .val (.ref a101)] [])
  refine Run.via (fun _ => XS.aloadN X150.at X150.ex rfl (X150.de tad_408) rfl rfl) ?_
  show Run _ _ _ _ _ _ _ _ _ _ _ _ T150 (mkF m 409 #[.val (.ref ms), .val (.int (Int32.ofNat nl.length)), .val (.ref a101)] [(.ref ms)])
  refine Run.via (fun _ => XS.iloadN X150.at X150.ex rfl (X150.de tad_409) rfl) ?_
  show Run _ _ _ _ _ _ _ _ _ _ _ _ T150 (mkF m 410 #[.val (.ref ms), .val (.int (Int32.ofNat nl.length)), .val (.ref a101)] [(.int (Int32.ofNat nl.length)), (.ref ms)])
  refine Run.via (fun _ => XS.bipush X150.at X150.ex rfl (X150.de tad_410)) ?_
  show Run _ _ _ _ _ _ _ _ _ _ _ _ T150 (mkF m 412 #[.val (.ref ms), .val (.int (Int32.ofNat nl.length)), .val (.ref a101)] [(.int (24 : Int32)), (.int (Int32.ofNat nl.length)), (.ref ms)])
  refine Run.via (fun _ => XS.iadd X150.at X150.ex rfl (X150.de tad_412) rfl) ?_
  show Run _ _ _ _ _ _ _ _ _ _ _ _ T150 (mkF m 413 #[.val (.ref ms), .val (.int (Int32.ofNat nl.length)), .val (.ref a101)] [(.int ((Int32.ofNat nl.length) + (24 : Int32))), (.ref ms)])
  rw [show ((Int32.ofNat nl.length) + (24 : Int32)) = (Int32.ofNat (nl.length + 24)) from i32add (b := 24) (by omega)]
  show Run _ _ _ _ _ _ _ _ _ _ _ _ T150 (mkF m 413 #[.val (.ref ms), .val (.int (Int32.ofNat nl.length)), .val (.ref a101)] [(.int (Int32.ofNat (nl.length + 24))), (.ref ms)])
  refine Run.sch hw hS X150 (W := 0) S1 hlm rfl (by rw [List.length_append]; show _ < _ + 32; omega) (wd hw 226 rfl) (wd hw 227 rfl) (wd hw 228 rfl) (wd hw 229 rfl) (wd hw 1 rfl) tad_413 rfl (Nat.le_of_ble_eq_true rfl) (by decide) (by decide) (Nat.le_of_ble_eq_true rfl) (Nat.le_of_ble_eq_true rfl) ?_
  intro T151 X151
  show Run _ _ _ _ _ _ _ _ _ _ _ _ T151 (mkF m 416 #[.val (.ref ms), .val (.int (Int32.ofNat nl.length)), .val (.ref a101)] [(.int ((nl ++ ([58, 32, 116, 104, 101, 32, 118, 97, 114, 105, 97, 98, 108, 101, 32, 104, 97, 115, 32, 110, 111, 32, 118, 97, 108, 117, 101, 32, 104, 101, 114, 101] : List Int32)).getD (nl.length + 24) 0))])
  rw [show ((nl ++ ([58, 32, 116, 104, 101, 32, 118, 97, 114, 105, 97, 98, 108, 101, 32, 104, 97, 115, 32, 110, 111, 32, 118, 97, 108, 117, 101, 32, 104, 101, 114, 101] : List Int32)).getD (nl.length + 24) 0) = (108 : Int32) from getD_app nl _ 24]
  show Run _ _ _ _ _ _ _ _ _ _ _ _ T151 (mkF m 416 #[.val (.ref ms), .val (.int (Int32.ofNat nl.length)), .val (.ref a101)] [(.int (108 : Int32))])
  refine Run.via (fun _ => XS.aloadN X151.at X151.ex rfl (X151.de tad_416) rfl rfl) ?_
  show Run _ _ _ _ _ _ _ _ _ _ _ _ T151 (mkF m 417 #[.val (.ref ms), .val (.int (Int32.ofNat nl.length)), .val (.ref a101)] [(.ref a101), (.int (108 : Int32))])
  refine Run.via (fun _ => XS.bipush X151.at X151.ex rfl (X151.de tad_417)) ?_
  show Run _ _ _ _ _ _ _ _ _ _ _ _ T151 (mkF m 419 #[.val (.ref ms), .val (.int (Int32.ofNat nl.length)), .val (.ref a101)] [(.int (24 : Int32)), (.ref a101), (.int (108 : Int32))])
  refine Run.sch hw hS X151 (W := 1) S101 (fun c q => (latTX c q).2) rfl (by decide) (wd hw 226 rfl) (wd hw 227 rfl) (wd hw 228 rfl) (wd hw 229 rfl) (wd hw 1 rfl) tad_419 rfl (Nat.le_of_ble_eq_true rfl) (by decide) (by decide) (Nat.le_of_ble_eq_true rfl) (Nat.le_of_ble_eq_true rfl) ?_
  intro T152 X152
  show Run _ _ _ _ _ _ _ _ _ _ _ _ T152 (mkF m 422 #[.val (.ref ms), .val (.int (Int32.ofNat nl.length)), .val (.ref a101)] [(.int (108 : Int32)), (.int (108 : Int32))])
  refine Run.via (fun _ => XS.icmpNo X152.at X152.ex rfl (X152.de tad_422) rfl (teq (by decide : ((108 : Int32) = (108 : Int32)))).2) ?_
  show Run _ _ _ _ _ _ _ _ _ _ _ _ T152 (mkF m 425 #[.val (.ref ms), .val (.int (Int32.ofNat nl.length)), .val (.ref a101)] [])
  refine Run.via (fun _ => XS.aloadN X152.at X152.ex rfl (X152.de tad_425) rfl rfl) ?_
  show Run _ _ _ _ _ _ _ _ _ _ _ _ T152 (mkF m 426 #[.val (.ref ms), .val (.int (Int32.ofNat nl.length)), .val (.ref a101)] [(.ref ms)])
  refine Run.via (fun _ => XS.iloadN X152.at X152.ex rfl (X152.de tad_426) rfl) ?_
  show Run _ _ _ _ _ _ _ _ _ _ _ _ T152 (mkF m 427 #[.val (.ref ms), .val (.int (Int32.ofNat nl.length)), .val (.ref a101)] [(.int (Int32.ofNat nl.length)), (.ref ms)])
  refine Run.via (fun _ => XS.bipush X152.at X152.ex rfl (X152.de tad_427)) ?_
  show Run _ _ _ _ _ _ _ _ _ _ _ _ T152 (mkF m 429 #[.val (.ref ms), .val (.int (Int32.ofNat nl.length)), .val (.ref a101)] [(.int (25 : Int32)), (.int (Int32.ofNat nl.length)), (.ref ms)])
  refine Run.via (fun _ => XS.iadd X152.at X152.ex rfl (X152.de tad_429) rfl) ?_
  show Run _ _ _ _ _ _ _ _ _ _ _ _ T152 (mkF m 430 #[.val (.ref ms), .val (.int (Int32.ofNat nl.length)), .val (.ref a101)] [(.int ((Int32.ofNat nl.length) + (25 : Int32))), (.ref ms)])
  rw [show ((Int32.ofNat nl.length) + (25 : Int32)) = (Int32.ofNat (nl.length + 25)) from i32add (b := 25) (by omega)]
  show Run _ _ _ _ _ _ _ _ _ _ _ _ T152 (mkF m 430 #[.val (.ref ms), .val (.int (Int32.ofNat nl.length)), .val (.ref a101)] [(.int (Int32.ofNat (nl.length + 25))), (.ref ms)])
  refine Run.sch hw hS X152 (W := 0) S1 hlm rfl (by rw [List.length_append]; show _ < _ + 32; omega) (wd hw 226 rfl) (wd hw 227 rfl) (wd hw 228 rfl) (wd hw 229 rfl) (wd hw 1 rfl) tad_430 rfl (Nat.le_of_ble_eq_true rfl) (by decide) (by decide) (Nat.le_of_ble_eq_true rfl) (Nat.le_of_ble_eq_true rfl) ?_
  intro T153 X153
  show Run _ _ _ _ _ _ _ _ _ _ _ _ T153 (mkF m 433 #[.val (.ref ms), .val (.int (Int32.ofNat nl.length)), .val (.ref a101)] [(.int ((nl ++ ([58, 32, 116, 104, 101, 32, 118, 97, 114, 105, 97, 98, 108, 101, 32, 104, 97, 115, 32, 110, 111, 32, 118, 97, 108, 117, 101, 32, 104, 101, 114, 101] : List Int32)).getD (nl.length + 25) 0))])
  rw [show ((nl ++ ([58, 32, 116, 104, 101, 32, 118, 97, 114, 105, 97, 98, 108, 101, 32, 104, 97, 115, 32, 110, 111, 32, 118, 97, 108, 117, 101, 32, 104, 101, 114, 101] : List Int32)).getD (nl.length + 25) 0) = (117 : Int32) from getD_app nl _ 25]
  show Run _ _ _ _ _ _ _ _ _ _ _ _ T153 (mkF m 433 #[.val (.ref ms), .val (.int (Int32.ofNat nl.length)), .val (.ref a101)] [(.int (117 : Int32))])
  refine Run.via (fun _ => XS.aloadN X153.at X153.ex rfl (X153.de tad_433) rfl rfl) ?_
  show Run _ _ _ _ _ _ _ _ _ _ _ _ T153 (mkF m 434 #[.val (.ref ms), .val (.int (Int32.ofNat nl.length)), .val (.ref a101)] [(.ref a101), (.int (117 : Int32))])
  refine Run.via (fun _ => XS.bipush X153.at X153.ex rfl (X153.de tad_434)) ?_
  show Run _ _ _ _ _ _ _ _ _ _ _ _ T153 (mkF m 436 #[.val (.ref ms), .val (.int (Int32.ofNat nl.length)), .val (.ref a101)] [(.int (25 : Int32)), (.ref a101), (.int (117 : Int32))])
  refine Run.sch hw hS X153 (W := 1) S101 (fun c q => (latTX c q).2) rfl (by decide) (wd hw 226 rfl) (wd hw 227 rfl) (wd hw 228 rfl) (wd hw 229 rfl) (wd hw 1 rfl) tad_436 rfl (Nat.le_of_ble_eq_true rfl) (by decide) (by decide) (Nat.le_of_ble_eq_true rfl) (Nat.le_of_ble_eq_true rfl) ?_
  intro T154 X154
  show Run _ _ _ _ _ _ _ _ _ _ _ _ T154 (mkF m 439 #[.val (.ref ms), .val (.int (Int32.ofNat nl.length)), .val (.ref a101)] [(.int (117 : Int32)), (.int (117 : Int32))])
  refine Run.via (fun _ => XS.icmpNo X154.at X154.ex rfl (X154.de tad_439) rfl (teq (by decide : ((117 : Int32) = (117 : Int32)))).2) ?_
  show Run _ _ _ _ _ _ _ _ _ _ _ _ T154 (mkF m 442 #[.val (.ref ms), .val (.int (Int32.ofNat nl.length)), .val (.ref a101)] [])
  refine Run.via (fun _ => XS.aloadN X154.at X154.ex rfl (X154.de tad_442) rfl rfl) ?_
  show Run _ _ _ _ _ _ _ _ _ _ _ _ T154 (mkF m 443 #[.val (.ref ms), .val (.int (Int32.ofNat nl.length)), .val (.ref a101)] [(.ref ms)])
  refine Run.via (fun _ => XS.iloadN X154.at X154.ex rfl (X154.de tad_443) rfl) ?_
  show Run _ _ _ _ _ _ _ _ _ _ _ _ T154 (mkF m 444 #[.val (.ref ms), .val (.int (Int32.ofNat nl.length)), .val (.ref a101)] [(.int (Int32.ofNat nl.length)), (.ref ms)])
  refine Run.via (fun _ => XS.bipush X154.at X154.ex rfl (X154.de tad_444)) ?_
  show Run _ _ _ _ _ _ _ _ _ _ _ _ T154 (mkF m 446 #[.val (.ref ms), .val (.int (Int32.ofNat nl.length)), .val (.ref a101)] [(.int (26 : Int32)), (.int (Int32.ofNat nl.length)), (.ref ms)])
  refine Run.via (fun _ => XS.iadd X154.at X154.ex rfl (X154.de tad_446) rfl) ?_
  show Run _ _ _ _ _ _ _ _ _ _ _ _ T154 (mkF m 447 #[.val (.ref ms), .val (.int (Int32.ofNat nl.length)), .val (.ref a101)] [(.int ((Int32.ofNat nl.length) + (26 : Int32))), (.ref ms)])
  rw [show ((Int32.ofNat nl.length) + (26 : Int32)) = (Int32.ofNat (nl.length + 26)) from i32add (b := 26) (by omega)]
  show Run _ _ _ _ _ _ _ _ _ _ _ _ T154 (mkF m 447 #[.val (.ref ms), .val (.int (Int32.ofNat nl.length)), .val (.ref a101)] [(.int (Int32.ofNat (nl.length + 26))), (.ref ms)])
  refine Run.sch hw hS X154 (W := 0) S1 hlm rfl (by rw [List.length_append]; show _ < _ + 32; omega) (wd hw 226 rfl) (wd hw 227 rfl) (wd hw 228 rfl) (wd hw 229 rfl) (wd hw 1 rfl) tad_447 rfl (Nat.le_of_ble_eq_true rfl) (by decide) (by decide) (Nat.le_of_ble_eq_true rfl) (Nat.le_of_ble_eq_true rfl) ?_
  intro T155 X155
  show Run _ _ _ _ _ _ _ _ _ _ _ _ T155 (mkF m 450 #[.val (.ref ms), .val (.int (Int32.ofNat nl.length)), .val (.ref a101)] [(.int ((nl ++ ([58, 32, 116, 104, 101, 32, 118, 97, 114, 105, 97, 98, 108, 101, 32, 104, 97, 115, 32, 110, 111, 32, 118, 97, 108, 117, 101, 32, 104, 101, 114, 101] : List Int32)).getD (nl.length + 26) 0))])
  rw [show ((nl ++ ([58, 32, 116, 104, 101, 32, 118, 97, 114, 105, 97, 98, 108, 101, 32, 104, 97, 115, 32, 110, 111, 32, 118, 97, 108, 117, 101, 32, 104, 101, 114, 101] : List Int32)).getD (nl.length + 26) 0) = (101 : Int32) from getD_app nl _ 26]
  show Run _ _ _ _ _ _ _ _ _ _ _ _ T155 (mkF m 450 #[.val (.ref ms), .val (.int (Int32.ofNat nl.length)), .val (.ref a101)] [(.int (101 : Int32))])
  refine Run.via (fun _ => XS.aloadN X155.at X155.ex rfl (X155.de tad_450) rfl rfl) ?_
  show Run _ _ _ _ _ _ _ _ _ _ _ _ T155 (mkF m 451 #[.val (.ref ms), .val (.int (Int32.ofNat nl.length)), .val (.ref a101)] [(.ref a101), (.int (101 : Int32))])
  refine Run.via (fun _ => XS.bipush X155.at X155.ex rfl (X155.de tad_451)) ?_
  show Run _ _ _ _ _ _ _ _ _ _ _ _ T155 (mkF m 453 #[.val (.ref ms), .val (.int (Int32.ofNat nl.length)), .val (.ref a101)] [(.int (26 : Int32)), (.ref a101), (.int (101 : Int32))])
  refine Run.sch hw hS X155 (W := 1) S101 (fun c q => (latTX c q).2) rfl (by decide) (wd hw 226 rfl) (wd hw 227 rfl) (wd hw 228 rfl) (wd hw 229 rfl) (wd hw 1 rfl) tad_453 rfl (Nat.le_of_ble_eq_true rfl) (by decide) (by decide) (Nat.le_of_ble_eq_true rfl) (Nat.le_of_ble_eq_true rfl) ?_
  intro T156 X156
  show Run _ _ _ _ _ _ _ _ _ _ _ _ T156 (mkF m 456 #[.val (.ref ms), .val (.int (Int32.ofNat nl.length)), .val (.ref a101)] [(.int (101 : Int32)), (.int (101 : Int32))])
  refine Run.via (fun _ => XS.icmpNo X156.at X156.ex rfl (X156.de tad_456) rfl (teq (by decide : ((101 : Int32) = (101 : Int32)))).2) ?_
  show Run _ _ _ _ _ _ _ _ _ _ _ _ T156 (mkF m 459 #[.val (.ref ms), .val (.int (Int32.ofNat nl.length)), .val (.ref a101)] [])
  refine Run.via (fun _ => XS.aloadN X156.at X156.ex rfl (X156.de tad_459) rfl rfl) ?_
  show Run _ _ _ _ _ _ _ _ _ _ _ _ T156 (mkF m 460 #[.val (.ref ms), .val (.int (Int32.ofNat nl.length)), .val (.ref a101)] [(.ref ms)])
  refine Run.via (fun _ => XS.iloadN X156.at X156.ex rfl (X156.de tad_460) rfl) ?_
  show Run _ _ _ _ _ _ _ _ _ _ _ _ T156 (mkF m 461 #[.val (.ref ms), .val (.int (Int32.ofNat nl.length)), .val (.ref a101)] [(.int (Int32.ofNat nl.length)), (.ref ms)])
  refine Run.via (fun _ => XS.bipush X156.at X156.ex rfl (X156.de tad_461)) ?_
  show Run _ _ _ _ _ _ _ _ _ _ _ _ T156 (mkF m 463 #[.val (.ref ms), .val (.int (Int32.ofNat nl.length)), .val (.ref a101)] [(.int (27 : Int32)), (.int (Int32.ofNat nl.length)), (.ref ms)])
  refine Run.via (fun _ => XS.iadd X156.at X156.ex rfl (X156.de tad_463) rfl) ?_
  show Run _ _ _ _ _ _ _ _ _ _ _ _ T156 (mkF m 464 #[.val (.ref ms), .val (.int (Int32.ofNat nl.length)), .val (.ref a101)] [(.int ((Int32.ofNat nl.length) + (27 : Int32))), (.ref ms)])
  rw [show ((Int32.ofNat nl.length) + (27 : Int32)) = (Int32.ofNat (nl.length + 27)) from i32add (b := 27) (by omega)]
  show Run _ _ _ _ _ _ _ _ _ _ _ _ T156 (mkF m 464 #[.val (.ref ms), .val (.int (Int32.ofNat nl.length)), .val (.ref a101)] [(.int (Int32.ofNat (nl.length + 27))), (.ref ms)])
  refine Run.sch hw hS X156 (W := 0) S1 hlm rfl (by rw [List.length_append]; show _ < _ + 32; omega) (wd hw 226 rfl) (wd hw 227 rfl) (wd hw 228 rfl) (wd hw 229 rfl) (wd hw 1 rfl) tad_464 rfl (Nat.le_of_ble_eq_true rfl) (by decide) (by decide) (Nat.le_of_ble_eq_true rfl) (Nat.le_of_ble_eq_true rfl) ?_
  intro T157 X157
  show Run _ _ _ _ _ _ _ _ _ _ _ _ T157 (mkF m 467 #[.val (.ref ms), .val (.int (Int32.ofNat nl.length)), .val (.ref a101)] [(.int ((nl ++ ([58, 32, 116, 104, 101, 32, 118, 97, 114, 105, 97, 98, 108, 101, 32, 104, 97, 115, 32, 110, 111, 32, 118, 97, 108, 117, 101, 32, 104, 101, 114, 101] : List Int32)).getD (nl.length + 27) 0))])
  rw [show ((nl ++ ([58, 32, 116, 104, 101, 32, 118, 97, 114, 105, 97, 98, 108, 101, 32, 104, 97, 115, 32, 110, 111, 32, 118, 97, 108, 117, 101, 32, 104, 101, 114, 101] : List Int32)).getD (nl.length + 27) 0) = (32 : Int32) from getD_app nl _ 27]
  show Run _ _ _ _ _ _ _ _ _ _ _ _ T157 (mkF m 467 #[.val (.ref ms), .val (.int (Int32.ofNat nl.length)), .val (.ref a101)] [(.int (32 : Int32))])
  refine Run.via (fun _ => XS.aloadN X157.at X157.ex rfl (X157.de tad_467) rfl rfl) ?_
  show Run _ _ _ _ _ _ _ _ _ _ _ _ T157 (mkF m 468 #[.val (.ref ms), .val (.int (Int32.ofNat nl.length)), .val (.ref a101)] [(.ref a101), (.int (32 : Int32))])
  refine Run.via (fun _ => XS.bipush X157.at X157.ex rfl (X157.de tad_468)) ?_
  show Run _ _ _ _ _ _ _ _ _ _ _ _ T157 (mkF m 470 #[.val (.ref ms), .val (.int (Int32.ofNat nl.length)), .val (.ref a101)] [(.int (27 : Int32)), (.ref a101), (.int (32 : Int32))])
  refine Run.sch hw hS X157 (W := 1) S101 (fun c q => (latTX c q).2) rfl (by decide) (wd hw 226 rfl) (wd hw 227 rfl) (wd hw 228 rfl) (wd hw 229 rfl) (wd hw 1 rfl) tad_470 rfl (Nat.le_of_ble_eq_true rfl) (by decide) (by decide) (Nat.le_of_ble_eq_true rfl) (Nat.le_of_ble_eq_true rfl) ?_
  intro T158 X158
  show Run _ _ _ _ _ _ _ _ _ _ _ _ T158 (mkF m 473 #[.val (.ref ms), .val (.int (Int32.ofNat nl.length)), .val (.ref a101)] [(.int (32 : Int32)), (.int (32 : Int32))])
  refine Run.via (fun _ => XS.icmpNo X158.at X158.ex rfl (X158.de tad_473) rfl (teq (by decide : ((32 : Int32) = (32 : Int32)))).2) ?_
  show Run _ _ _ _ _ _ _ _ _ _ _ _ T158 (mkF m 476 #[.val (.ref ms), .val (.int (Int32.ofNat nl.length)), .val (.ref a101)] [])
  refine Run.via (fun _ => XS.aloadN X158.at X158.ex rfl (X158.de tad_476) rfl rfl) ?_
  show Run _ _ _ _ _ _ _ _ _ _ _ _ T158 (mkF m 477 #[.val (.ref ms), .val (.int (Int32.ofNat nl.length)), .val (.ref a101)] [(.ref ms)])
  refine Run.via (fun _ => XS.iloadN X158.at X158.ex rfl (X158.de tad_477) rfl) ?_
  show Run _ _ _ _ _ _ _ _ _ _ _ _ T158 (mkF m 478 #[.val (.ref ms), .val (.int (Int32.ofNat nl.length)), .val (.ref a101)] [(.int (Int32.ofNat nl.length)), (.ref ms)])
  refine Run.via (fun _ => XS.bipush X158.at X158.ex rfl (X158.de tad_478)) ?_
  show Run _ _ _ _ _ _ _ _ _ _ _ _ T158 (mkF m 480 #[.val (.ref ms), .val (.int (Int32.ofNat nl.length)), .val (.ref a101)] [(.int (28 : Int32)), (.int (Int32.ofNat nl.length)), (.ref ms)])
  refine Run.via (fun _ => XS.iadd X158.at X158.ex rfl (X158.de tad_480) rfl) ?_
  show Run _ _ _ _ _ _ _ _ _ _ _ _ T158 (mkF m 481 #[.val (.ref ms), .val (.int (Int32.ofNat nl.length)), .val (.ref a101)] [(.int ((Int32.ofNat nl.length) + (28 : Int32))), (.ref ms)])
  rw [show ((Int32.ofNat nl.length) + (28 : Int32)) = (Int32.ofNat (nl.length + 28)) from i32add (b := 28) (by omega)]
  show Run _ _ _ _ _ _ _ _ _ _ _ _ T158 (mkF m 481 #[.val (.ref ms), .val (.int (Int32.ofNat nl.length)), .val (.ref a101)] [(.int (Int32.ofNat (nl.length + 28))), (.ref ms)])
  refine Run.sch hw hS X158 (W := 0) S1 hlm rfl (by rw [List.length_append]; show _ < _ + 32; omega) (wd hw 226 rfl) (wd hw 227 rfl) (wd hw 228 rfl) (wd hw 229 rfl) (wd hw 1 rfl) tad_481 rfl (Nat.le_of_ble_eq_true rfl) (by decide) (by decide) (Nat.le_of_ble_eq_true rfl) (Nat.le_of_ble_eq_true rfl) ?_
  intro T159 X159
  show Run _ _ _ _ _ _ _ _ _ _ _ _ T159 (mkF m 484 #[.val (.ref ms), .val (.int (Int32.ofNat nl.length)), .val (.ref a101)] [(.int ((nl ++ ([58, 32, 116, 104, 101, 32, 118, 97, 114, 105, 97, 98, 108, 101, 32, 104, 97, 115, 32, 110, 111, 32, 118, 97, 108, 117, 101, 32, 104, 101, 114, 101] : List Int32)).getD (nl.length + 28) 0))])
  rw [show ((nl ++ ([58, 32, 116, 104, 101, 32, 118, 97, 114, 105, 97, 98, 108, 101, 32, 104, 97, 115, 32, 110, 111, 32, 118, 97, 108, 117, 101, 32, 104, 101, 114, 101] : List Int32)).getD (nl.length + 28) 0) = (104 : Int32) from getD_app nl _ 28]
  show Run _ _ _ _ _ _ _ _ _ _ _ _ T159 (mkF m 484 #[.val (.ref ms), .val (.int (Int32.ofNat nl.length)), .val (.ref a101)] [(.int (104 : Int32))])
  refine Run.via (fun _ => XS.aloadN X159.at X159.ex rfl (X159.de tad_484) rfl rfl) ?_
  show Run _ _ _ _ _ _ _ _ _ _ _ _ T159 (mkF m 485 #[.val (.ref ms), .val (.int (Int32.ofNat nl.length)), .val (.ref a101)] [(.ref a101), (.int (104 : Int32))])
  refine Run.via (fun _ => XS.bipush X159.at X159.ex rfl (X159.de tad_485)) ?_
  show Run _ _ _ _ _ _ _ _ _ _ _ _ T159 (mkF m 487 #[.val (.ref ms), .val (.int (Int32.ofNat nl.length)), .val (.ref a101)] [(.int (28 : Int32)), (.ref a101), (.int (104 : Int32))])
  refine Run.sch hw hS X159 (W := 1) S101 (fun c q => (latTX c q).2) rfl (by decide) (wd hw 226 rfl) (wd hw 227 rfl) (wd hw 228 rfl) (wd hw 229 rfl) (wd hw 1 rfl) tad_487 rfl (Nat.le_of_ble_eq_true rfl) (by decide) (by decide) (Nat.le_of_ble_eq_true rfl) (Nat.le_of_ble_eq_true rfl) ?_
  intro T160 X160
  show Run _ _ _ _ _ _ _ _ _ _ _ _ T160 (mkF m 490 #[.val (.ref ms), .val (.int (Int32.ofNat nl.length)), .val (.ref a101)] [(.int (104 : Int32)), (.int (104 : Int32))])
  refine Run.via (fun _ => XS.icmpNo X160.at X160.ex rfl (X160.de tad_490) rfl (teq (by decide : ((104 : Int32) = (104 : Int32)))).2) ?_
  show Run _ _ _ _ _ _ _ _ _ _ _ _ T160 (mkF m 493 #[.val (.ref ms), .val (.int (Int32.ofNat nl.length)), .val (.ref a101)] [])
  refine Run.via (fun _ => XS.aloadN X160.at X160.ex rfl (X160.de tad_493) rfl rfl) ?_
  show Run _ _ _ _ _ _ _ _ _ _ _ _ T160 (mkF m 494 #[.val (.ref ms), .val (.int (Int32.ofNat nl.length)), .val (.ref a101)] [(.ref ms)])
  refine Run.via (fun _ => XS.iloadN X160.at X160.ex rfl (X160.de tad_494) rfl) ?_
  show Run _ _ _ _ _ _ _ _ _ _ _ _ T160 (mkF m 495 #[.val (.ref ms), .val (.int (Int32.ofNat nl.length)), .val (.ref a101)] [(.int (Int32.ofNat nl.length)), (.ref ms)])
  refine Run.via (fun _ => XS.bipush X160.at X160.ex rfl (X160.de tad_495)) ?_
  show Run _ _ _ _ _ _ _ _ _ _ _ _ T160 (mkF m 497 #[.val (.ref ms), .val (.int (Int32.ofNat nl.length)), .val (.ref a101)] [(.int (29 : Int32)), (.int (Int32.ofNat nl.length)), (.ref ms)])
  refine Run.via (fun _ => XS.iadd X160.at X160.ex rfl (X160.de tad_497) rfl) ?_
  show Run _ _ _ _ _ _ _ _ _ _ _ _ T160 (mkF m 498 #[.val (.ref ms), .val (.int (Int32.ofNat nl.length)), .val (.ref a101)] [(.int ((Int32.ofNat nl.length) + (29 : Int32))), (.ref ms)])
  rw [show ((Int32.ofNat nl.length) + (29 : Int32)) = (Int32.ofNat (nl.length + 29)) from i32add (b := 29) (by omega)]
  show Run _ _ _ _ _ _ _ _ _ _ _ _ T160 (mkF m 498 #[.val (.ref ms), .val (.int (Int32.ofNat nl.length)), .val (.ref a101)] [(.int (Int32.ofNat (nl.length + 29))), (.ref ms)])
  refine Run.sch hw hS X160 (W := 0) S1 hlm rfl (by rw [List.length_append]; show _ < _ + 32; omega) (wd hw 226 rfl) (wd hw 227 rfl) (wd hw 228 rfl) (wd hw 229 rfl) (wd hw 1 rfl) tad_498 rfl (Nat.le_of_ble_eq_true rfl) (by decide) (by decide) (Nat.le_of_ble_eq_true rfl) (Nat.le_of_ble_eq_true rfl) ?_
  intro T161 X161
  show Run _ _ _ _ _ _ _ _ _ _ _ _ T161 (mkF m 501 #[.val (.ref ms), .val (.int (Int32.ofNat nl.length)), .val (.ref a101)] [(.int ((nl ++ ([58, 32, 116, 104, 101, 32, 118, 97, 114, 105, 97, 98, 108, 101, 32, 104, 97, 115, 32, 110, 111, 32, 118, 97, 108, 117, 101, 32, 104, 101, 114, 101] : List Int32)).getD (nl.length + 29) 0))])
  rw [show ((nl ++ ([58, 32, 116, 104, 101, 32, 118, 97, 114, 105, 97, 98, 108, 101, 32, 104, 97, 115, 32, 110, 111, 32, 118, 97, 108, 117, 101, 32, 104, 101, 114, 101] : List Int32)).getD (nl.length + 29) 0) = (101 : Int32) from getD_app nl _ 29]
  show Run _ _ _ _ _ _ _ _ _ _ _ _ T161 (mkF m 501 #[.val (.ref ms), .val (.int (Int32.ofNat nl.length)), .val (.ref a101)] [(.int (101 : Int32))])
  refine Run.via (fun _ => XS.aloadN X161.at X161.ex rfl (X161.de tad_501) rfl rfl) ?_
  show Run _ _ _ _ _ _ _ _ _ _ _ _ T161 (mkF m 502 #[.val (.ref ms), .val (.int (Int32.ofNat nl.length)), .val (.ref a101)] [(.ref a101), (.int (101 : Int32))])
  refine Run.via (fun _ => XS.bipush X161.at X161.ex rfl (X161.de tad_502)) ?_
  show Run _ _ _ _ _ _ _ _ _ _ _ _ T161 (mkF m 504 #[.val (.ref ms), .val (.int (Int32.ofNat nl.length)), .val (.ref a101)] [(.int (29 : Int32)), (.ref a101), (.int (101 : Int32))])
  refine Run.sch hw hS X161 (W := 1) S101 (fun c q => (latTX c q).2) rfl (by decide) (wd hw 226 rfl) (wd hw 227 rfl) (wd hw 228 rfl) (wd hw 229 rfl) (wd hw 1 rfl) tad_504 rfl (Nat.le_of_ble_eq_true rfl) (by decide) (by decide) (Nat.le_of_ble_eq_true rfl) (Nat.le_of_ble_eq_true rfl) ?_
  intro T162 X162
  show Run _ _ _ _ _ _ _ _ _ _ _ _ T162 (mkF m 507 #[.val (.ref ms), .val (.int (Int32.ofNat nl.length)), .val (.ref a101)] [(.int (101 : Int32)), (.int (101 : Int32))])
  refine Run.via (fun _ => XS.icmpNo X162.at X162.ex rfl (X162.de tad_507) rfl (teq (by decide : ((101 : Int32) = (101 : Int32)))).2) ?_
  show Run _ _ _ _ _ _ _ _ _ _ _ _ T162 (mkF m 510 #[.val (.ref ms), .val (.int (Int32.ofNat nl.length)), .val (.ref a101)] [])
  refine Run.via (fun _ => XS.aloadN X162.at X162.ex rfl (X162.de tad_510) rfl rfl) ?_
  show Run _ _ _ _ _ _ _ _ _ _ _ _ T162 (mkF m 511 #[.val (.ref ms), .val (.int (Int32.ofNat nl.length)), .val (.ref a101)] [(.ref ms)])
  refine Run.via (fun _ => XS.iloadN X162.at X162.ex rfl (X162.de tad_511) rfl) ?_
  show Run _ _ _ _ _ _ _ _ _ _ _ _ T162 (mkF m 512 #[.val (.ref ms), .val (.int (Int32.ofNat nl.length)), .val (.ref a101)] [(.int (Int32.ofNat nl.length)), (.ref ms)])
  refine Run.via (fun _ => XS.bipush X162.at X162.ex rfl (X162.de tad_512)) ?_
  show Run _ _ _ _ _ _ _ _ _ _ _ _ T162 (mkF m 514 #[.val (.ref ms), .val (.int (Int32.ofNat nl.length)), .val (.ref a101)] [(.int (30 : Int32)), (.int (Int32.ofNat nl.length)), (.ref ms)])
  refine Run.via (fun _ => XS.iadd X162.at X162.ex rfl (X162.de tad_514) rfl) ?_
  show Run _ _ _ _ _ _ _ _ _ _ _ _ T162 (mkF m 515 #[.val (.ref ms), .val (.int (Int32.ofNat nl.length)), .val (.ref a101)] [(.int ((Int32.ofNat nl.length) + (30 : Int32))), (.ref ms)])
  rw [show ((Int32.ofNat nl.length) + (30 : Int32)) = (Int32.ofNat (nl.length + 30)) from i32add (b := 30) (by omega)]
  show Run _ _ _ _ _ _ _ _ _ _ _ _ T162 (mkF m 515 #[.val (.ref ms), .val (.int (Int32.ofNat nl.length)), .val (.ref a101)] [(.int (Int32.ofNat (nl.length + 30))), (.ref ms)])
  refine Run.sch hw hS X162 (W := 0) S1 hlm rfl (by rw [List.length_append]; show _ < _ + 32; omega) (wd hw 226 rfl) (wd hw 227 rfl) (wd hw 228 rfl) (wd hw 229 rfl) (wd hw 1 rfl) tad_515 rfl (Nat.le_of_ble_eq_true rfl) (by decide) (by decide) (Nat.le_of_ble_eq_true rfl) (Nat.le_of_ble_eq_true rfl) ?_
  intro T163 X163
  show Run _ _ _ _ _ _ _ _ _ _ _ _ T163 (mkF m 518 #[.val (.ref ms), .val (.int (Int32.ofNat nl.length)), .val (.ref a101)] [(.int ((nl ++ ([58, 32, 116, 104, 101, 32, 118, 97, 114, 105, 97, 98, 108, 101, 32, 104, 97, 115, 32, 110, 111, 32, 118, 97, 108, 117, 101, 32, 104, 101, 114, 101] : List Int32)).getD (nl.length + 30) 0))])
  rw [show ((nl ++ ([58, 32, 116, 104, 101, 32, 118, 97, 114, 105, 97, 98, 108, 101, 32, 104, 97, 115, 32, 110, 111, 32, 118, 97, 108, 117, 101, 32, 104, 101, 114, 101] : List Int32)).getD (nl.length + 30) 0) = (114 : Int32) from getD_app nl _ 30]
  show Run _ _ _ _ _ _ _ _ _ _ _ _ T163 (mkF m 518 #[.val (.ref ms), .val (.int (Int32.ofNat nl.length)), .val (.ref a101)] [(.int (114 : Int32))])
  refine Run.via (fun _ => XS.aloadN X163.at X163.ex rfl (X163.de tad_518) rfl rfl) ?_
  show Run _ _ _ _ _ _ _ _ _ _ _ _ T163 (mkF m 519 #[.val (.ref ms), .val (.int (Int32.ofNat nl.length)), .val (.ref a101)] [(.ref a101), (.int (114 : Int32))])
  refine Run.via (fun _ => XS.bipush X163.at X163.ex rfl (X163.de tad_519)) ?_
  show Run _ _ _ _ _ _ _ _ _ _ _ _ T163 (mkF m 521 #[.val (.ref ms), .val (.int (Int32.ofNat nl.length)), .val (.ref a101)] [(.int (30 : Int32)), (.ref a101), (.int (114 : Int32))])
  refine Run.sch hw hS X163 (W := 1) S101 (fun c q => (latTX c q).2) rfl (by decide) (wd hw 226 rfl) (wd hw 227 rfl) (wd hw 228 rfl) (wd hw 229 rfl) (wd hw 1 rfl) tad_521 rfl (Nat.le_of_ble_eq_true rfl) (by decide) (by decide) (Nat.le_of_ble_eq_true rfl) (Nat.le_of_ble_eq_true rfl) ?_
  intro T164 X164
  show Run _ _ _ _ _ _ _ _ _ _ _ _ T164 (mkF m 524 #[.val (.ref ms), .val (.int (Int32.ofNat nl.length)), .val (.ref a101)] [(.int (114 : Int32)), (.int (114 : Int32))])
  refine Run.via (fun _ => XS.icmpNo X164.at X164.ex rfl (X164.de tad_524) rfl (teq (by decide : ((114 : Int32) = (114 : Int32)))).2) ?_
  show Run _ _ _ _ _ _ _ _ _ _ _ _ T164 (mkF m 527 #[.val (.ref ms), .val (.int (Int32.ofNat nl.length)), .val (.ref a101)] [])
  refine Run.via (fun _ => XS.aloadN X164.at X164.ex rfl (X164.de tad_527) rfl rfl) ?_
  show Run _ _ _ _ _ _ _ _ _ _ _ _ T164 (mkF m 528 #[.val (.ref ms), .val (.int (Int32.ofNat nl.length)), .val (.ref a101)] [(.ref ms)])
  refine Run.via (fun _ => XS.iloadN X164.at X164.ex rfl (X164.de tad_528) rfl) ?_
  show Run _ _ _ _ _ _ _ _ _ _ _ _ T164 (mkF m 529 #[.val (.ref ms), .val (.int (Int32.ofNat nl.length)), .val (.ref a101)] [(.int (Int32.ofNat nl.length)), (.ref ms)])
  refine Run.via (fun _ => XS.bipush X164.at X164.ex rfl (X164.de tad_529)) ?_
  show Run _ _ _ _ _ _ _ _ _ _ _ _ T164 (mkF m 531 #[.val (.ref ms), .val (.int (Int32.ofNat nl.length)), .val (.ref a101)] [(.int (31 : Int32)), (.int (Int32.ofNat nl.length)), (.ref ms)])
  refine Run.via (fun _ => XS.iadd X164.at X164.ex rfl (X164.de tad_531) rfl) ?_
  show Run _ _ _ _ _ _ _ _ _ _ _ _ T164 (mkF m 532 #[.val (.ref ms), .val (.int (Int32.ofNat nl.length)), .val (.ref a101)] [(.int ((Int32.ofNat nl.length) + (31 : Int32))), (.ref ms)])
  rw [show ((Int32.ofNat nl.length) + (31 : Int32)) = (Int32.ofNat (nl.length + 31)) from i32add (b := 31) (by omega)]
  show Run _ _ _ _ _ _ _ _ _ _ _ _ T164 (mkF m 532 #[.val (.ref ms), .val (.int (Int32.ofNat nl.length)), .val (.ref a101)] [(.int (Int32.ofNat (nl.length + 31))), (.ref ms)])
  refine Run.sch hw hS X164 (W := 0) S1 hlm rfl (by rw [List.length_append]; show _ < _ + 32; omega) (wd hw 226 rfl) (wd hw 227 rfl) (wd hw 228 rfl) (wd hw 229 rfl) (wd hw 1 rfl) tad_532 rfl (Nat.le_of_ble_eq_true rfl) (by decide) (by decide) (Nat.le_of_ble_eq_true rfl) (Nat.le_of_ble_eq_true rfl) ?_
  intro T165 X165
  show Run _ _ _ _ _ _ _ _ _ _ _ _ T165 (mkF m 535 #[.val (.ref ms), .val (.int (Int32.ofNat nl.length)), .val (.ref a101)] [(.int ((nl ++ ([58, 32, 116, 104, 101, 32, 118, 97, 114, 105, 97, 98, 108, 101, 32, 104, 97, 115, 32, 110, 111, 32, 118, 97, 108, 117, 101, 32, 104, 101, 114, 101] : List Int32)).getD (nl.length + 31) 0))])
  rw [show ((nl ++ ([58, 32, 116, 104, 101, 32, 118, 97, 114, 105, 97, 98, 108, 101, 32, 104, 97, 115, 32, 110, 111, 32, 118, 97, 108, 117, 101, 32, 104, 101, 114, 101] : List Int32)).getD (nl.length + 31) 0) = (101 : Int32) from getD_app nl _ 31]
  show Run _ _ _ _ _ _ _ _ _ _ _ _ T165 (mkF m 535 #[.val (.ref ms), .val (.int (Int32.ofNat nl.length)), .val (.ref a101)] [(.int (101 : Int32))])
  refine Run.via (fun _ => XS.aloadN X165.at X165.ex rfl (X165.de tad_535) rfl rfl) ?_
  show Run _ _ _ _ _ _ _ _ _ _ _ _ T165 (mkF m 536 #[.val (.ref ms), .val (.int (Int32.ofNat nl.length)), .val (.ref a101)] [(.ref a101), (.int (101 : Int32))])
  refine Run.via (fun _ => XS.bipush X165.at X165.ex rfl (X165.de tad_536)) ?_
  show Run _ _ _ _ _ _ _ _ _ _ _ _ T165 (mkF m 538 #[.val (.ref ms), .val (.int (Int32.ofNat nl.length)), .val (.ref a101)] [(.int (31 : Int32)), (.ref a101), (.int (101 : Int32))])
  refine Run.sch hw hS X165 (W := 1) S101 (fun c q => (latTX c q).2) rfl (by decide) (wd hw 226 rfl) (wd hw 227 rfl) (wd hw 228 rfl) (wd hw 229 rfl) (wd hw 1 rfl) tad_538 rfl (Nat.le_of_ble_eq_true rfl) (by decide) (by decide) (Nat.le_of_ble_eq_true rfl) (Nat.le_of_ble_eq_true rfl) ?_
  intro T166 X166
  show Run _ _ _ _ _ _ _ _ _ _ _ _ T166 (mkF m 541 #[.val (.ref ms), .val (.int (Int32.ofNat nl.length)), .val (.ref a101)] [(.int (101 : Int32)), (.int (101 : Int32))])
  refine Run.via (fun _ => XS.icmpNo X166.at X166.ex rfl (X166.de tad_541) rfl (teq (by decide : ((101 : Int32) = (101 : Int32)))).2) ?_
  show Run _ _ _ _ _ _ _ _ _ _ _ _ T166 (mkF m 544 #[.val (.ref ms), .val (.int (Int32.ofNat nl.length)), .val (.ref a101)] [])
  refine Run.via (fun _ => XS.iconst X166.at X166.ex rfl (X166.de tad_544)) ?_
  show Run _ _ _ _ _ _ _ _ _ _ _ _ T166 (mkF m 545 #[.val (.ref ms), .val (.int (Int32.ofNat nl.length)), .val (.ref a101)] [(.int (1 : Int32))])
  refine Run.via (fun _ => XS.goto X166.at X166.ex rfl (pc0 := 545) (pc' := 549) rfl (X166.de tad_545) (by decide) (by decide)) ?_
  show Run _ _ _ _ _ _ _ _ _ _ _ _ T166 (mkF m 549 #[.val (.ref ms), .val (.int (Int32.ofNat nl.length)), .val (.ref a101)] [(.int (1 : Int32))])
  exact Run.retN X166 (t := .boolean) rfl (by simp) tad_549 (Nat.le_of_ble_eq_true rfl) (Nat.le_of_ble_eq_true rfl) (rfl)
-- part con_law
set_option maxRecDepth 65536 in
set_option maxHeartbeats 40000000 in
theorem con_law (l : Launch) {Z : State} {a0 : Array Value} {EL : List (String × Nat)} {h0 : Heap} (hw : ∀ d ∈ tables_1, d.before a0 Z = true) (hS : Sets Z) (hN : NW = false) (hm : ("java/lang/String", 7) ∈ EL) (hmV : ("com/example/veneer/veneer/VeneerException", 21) ∈ EL) (hmP : ("com/example/veneer/veneer/VeneerExceptionUnboundPinLaw", 36) ∈ EL) (hst : l.stackTraces = true) {u sn : Addr} (SU : Sta Z Z.heap "java/lang/Throwable" "UNASSIGNED_STACK" "[Ljava/lang/StackTraceElement;" (.ref u)) (SS : Sta Z Z.heap "java/lang/Throwable" "SUPPRESSED_SENTINEL" "Ljava/util/List;" (.ref sn)) {len x0 x1 x2 : Int32} (O : Ext Z.heap h0) : Con l Z a0 EL svN true x code maxLocals ret room_1 [] [] #[(.int len), (.int x0), (.int x1), (.int x2)] h0 (fun v _ => v = some (.int 1)) := by
  refine Con.enter (plainFor_of_name (by first | (simp [plainName, overriddenIn]; done) | decide +kernel)) O ?_
  intro p e s m below meth c T0 X0
  rw [show entryFrame m #[(.int len), (.int x0), (.int x1), (.int x2)] maxLocals = (mkF m 0 #[.val (.int len), .val (.int x0), .val (.int x1), .val (.int x2), .unset, .unset, .unset, .unset, .unset, .unset, .unset] []) from by first | (simp [entryFrame, mkF, argsToLocals, Value.category, maxLocals]; done) | rfl]
  have ho := O.1
  refine Run.via (fun _ => XS.iloadN X0.at X0.ex rfl (X0.de at_0) rfl) ?_
  show Run _ _ _ _ _ _ _ _ _ _ _ _ T0 (mkF m 1 #[.val (.int len), .val (.int x0), .val (.int x1), .val (.int x2), .unset, .unset, .unset, .unset, .unset, .unset, .unset] [(.int len)])
  refine Run.via (fun _ => XS.iconst X0.at X0.ex rfl (X0.de at_1)) ?_
  show Run _ _ _ _ _ _ _ _ _ _ _ _ T0 (mkF m 2 #[.val (.int len), .val (.int x0), .val (.int x1), .val (.int x2), .unset, .unset, .unset, .unset, .unset, .unset, .unset] [(.int (3 : Int32)), (.int len)])
  refine Run.via (fun _ => XS.iand X0.at X0.ex rfl (X0.de at_2) rfl) ?_
  show Run _ _ _ _ _ _ _ _ _ _ _ _ T0 (mkF m 3 #[.val (.int len), .val (.int x0), .val (.int x1), .val (.int x2), .unset, .unset, .unset, .unset, .unset, .unset, .unset] [(.int (len &&& (3 : Int32)))])
  generalize hsz : (len &&& (3 : Int32)) = n
  show Run _ _ _ _ _ _ _ _ _ _ _ _ T0 (mkF m 3 #[.val (.int len), .val (.int x0), .val (.int x1), .val (.int x2), .unset, .unset, .unset, .unset, .unset, .unset, .unset] [(.int n)])
  refine Run.via (fun _ => XS.istore X0.at X0.ex rfl (X0.de at_3) rfl (l' := #[.val (.int len), .val (.int x0), .val (.int x1), .val (.int x2), .val (.int n), .unset, .unset, .unset, .unset, .unset, .unset]) rfl) ?_
  show Run _ _ _ _ _ _ _ _ _ _ _ _ T0 (mkF m 5 #[.val (.int len), .val (.int x0), .val (.int x1), .val (.int x2), .val (.int n), .unset, .unset, .unset, .unset, .unset, .unset] [])
  refine Run.via (fun _ => XS.iloadN X0.at X0.ex rfl (X0.de at_5) rfl) ?_
  show Run _ _ _ _ _ _ _ _ _ _ _ _ T0 (mkF m 6 #[.val (.int len), .val (.int x0), .val (.int x1), .val (.int x2), .val (.int n), .unset, .unset, .unset, .unset, .unset, .unset] [(.int x0)])
  refine Run.via (fun _ => XS.sipush X0.at X0.ex rfl (X0.de at_6)) ?_
  show Run _ _ _ _ _ _ _ _ _ _ _ _ T0 (mkF m 9 #[.val (.int len), .val (.int x0), .val (.int x1), .val (.int x2), .val (.int n), .unset, .unset, .unset, .unset, .unset, .unset] [(.int (255 : Int32)), (.int x0)])
  refine Run.via (fun _ => XS.iand X0.at X0.ex rfl (X0.de at_9) rfl) ?_
  show Run _ _ _ _ _ _ _ _ _ _ _ _ T0 (mkF m 10 #[.val (.int len), .val (.int x0), .val (.int x1), .val (.int x2), .val (.int n), .unset, .unset, .unset, .unset, .unset, .unset] [(.int (x0 &&& (255 : Int32)))])
  refine Run.via (fun _ => XS.i2c X0.at X0.ex rfl (X0.de at_10) rfl) ?_
  show Run _ _ _ _ _ _ _ _ _ _ _ _ T0 (mkF m 11 #[.val (.int len), .val (.int x0), .val (.int x1), .val (.int x2), .val (.int n), .unset, .unset, .unset, .unset, .unset, .unset] [(.int ((x0 &&& (255 : Int32)).toUInt32.toUInt16.toUInt32.toInt32))])
  obtain ⟨c0, hc0, r0⟩ : ∃ c, ((x0 &&& (255 : Int32)).toUInt32.toUInt16.toUInt32.toInt32) = c ∧ ¬ c < 0 ∧ ¬ (255 : Int32) < c := ⟨_, rfl, and255 _⟩
  rw [hc0]
  show Run _ _ _ _ _ _ _ _ _ _ _ _ T0 (mkF m 11 #[.val (.int len), .val (.int x0), .val (.int x1), .val (.int x2), .val (.int n), .unset, .unset, .unset, .unset, .unset, .unset] [(.int c0)])
  refine Run.via (fun _ => XS.istore X0.at X0.ex rfl (X0.de at_11) rfl (l' := #[.val (.int len), .val (.int x0), .val (.int x1), .val (.int x2), .val (.int n), .val (.int c0), .unset, .unset, .unset, .unset, .unset]) rfl) ?_
  show Run _ _ _ _ _ _ _ _ _ _ _ _ T0 (mkF m 13 #[.val (.int len), .val (.int x0), .val (.int x1), .val (.int x2), .val (.int n), .val (.int c0), .unset, .unset, .unset, .unset, .unset] [])
  refine Run.via (fun _ => XS.iloadN X0.at X0.ex rfl (X0.de at_13) rfl) ?_
  show Run _ _ _ _ _ _ _ _ _ _ _ _ T0 (mkF m 14 #[.val (.int len), .val (.int x0), .val (.int x1), .val (.int x2), .val (.int n), .val (.int c0), .unset, .unset, .unset, .unset, .unset] [(.int x1)])
  refine Run.via (fun _ => XS.sipush X0.at X0.ex rfl (X0.de at_14)) ?_
  show Run _ _ _ _ _ _ _ _ _ _ _ _ T0 (mkF m 17 #[.val (.int len), .val (.int x0), .val (.int x1), .val (.int x2), .val (.int n), .val (.int c0), .unset, .unset, .unset, .unset, .unset] [(.int (255 : Int32)), (.int x1)])
  refine Run.via (fun _ => XS.iand X0.at X0.ex rfl (X0.de at_17) rfl) ?_
  show Run _ _ _ _ _ _ _ _ _ _ _ _ T0 (mkF m 18 #[.val (.int len), .val (.int x0), .val (.int x1), .val (.int x2), .val (.int n), .val (.int c0), .unset, .unset, .unset, .unset, .unset] [(.int (x1 &&& (255 : Int32)))])
  refine Run.via (fun _ => XS.i2c X0.at X0.ex rfl (X0.de at_18) rfl) ?_
  show Run _ _ _ _ _ _ _ _ _ _ _ _ T0 (mkF m 19 #[.val (.int len), .val (.int x0), .val (.int x1), .val (.int x2), .val (.int n), .val (.int c0), .unset, .unset, .unset, .unset, .unset] [(.int ((x1 &&& (255 : Int32)).toUInt32.toUInt16.toUInt32.toInt32))])
  obtain ⟨c1, hc1, r1⟩ : ∃ c, ((x1 &&& (255 : Int32)).toUInt32.toUInt16.toUInt32.toInt32) = c ∧ ¬ c < 0 ∧ ¬ (255 : Int32) < c := ⟨_, rfl, and255 _⟩
  rw [hc1]
  show Run _ _ _ _ _ _ _ _ _ _ _ _ T0 (mkF m 19 #[.val (.int len), .val (.int x0), .val (.int x1), .val (.int x2), .val (.int n), .val (.int c0), .unset, .unset, .unset, .unset, .unset] [(.int c1)])
  refine Run.via (fun _ => XS.istore X0.at X0.ex rfl (X0.de at_19) rfl (l' := #[.val (.int len), .val (.int x0), .val (.int x1), .val (.int x2), .val (.int n), .val (.int c0), .val (.int c1), .unset, .unset, .unset, .unset]) rfl) ?_
  show Run _ _ _ _ _ _ _ _ _ _ _ _ T0 (mkF m 21 #[.val (.int len), .val (.int x0), .val (.int x1), .val (.int x2), .val (.int n), .val (.int c0), .val (.int c1), .unset, .unset, .unset, .unset] [])
  refine Run.via (fun _ => XS.iloadN X0.at X0.ex rfl (X0.de at_21) rfl) ?_
  show Run _ _ _ _ _ _ _ _ _ _ _ _ T0 (mkF m 22 #[.val (.int len), .val (.int x0), .val (.int x1), .val (.int x2), .val (.int n), .val (.int c0), .val (.int c1), .unset, .unset, .unset, .unset] [(.int x2)])
  refine Run.via (fun _ => XS.sipush X0.at X0.ex rfl (X0.de at_22)) ?_
  show Run _ _ _ _ _ _ _ _ _ _ _ _ T0 (mkF m 25 #[.val (.int len), .val (.int x0), .val (.int x1), .val (.int x2), .val (.int n), .val (.int c0), .val (.int c1), .unset, .unset, .unset, .unset] [(.int (255 : Int32)), (.int x2)])
  refine Run.via (fun _ => XS.iand X0.at X0.ex rfl (X0.de at_25) rfl) ?_
  show Run _ _ _ _ _ _ _ _ _ _ _ _ T0 (mkF m 26 #[.val (.int len), .val (.int x0), .val (.int x1), .val (.int x2), .val (.int n), .val (.int c0), .val (.int c1), .unset, .unset, .unset, .unset] [(.int (x2 &&& (255 : Int32)))])
  refine Run.via (fun _ => XS.i2c X0.at X0.ex rfl (X0.de at_26) rfl) ?_
  show Run _ _ _ _ _ _ _ _ _ _ _ _ T0 (mkF m 27 #[.val (.int len), .val (.int x0), .val (.int x1), .val (.int x2), .val (.int n), .val (.int c0), .val (.int c1), .unset, .unset, .unset, .unset] [(.int ((x2 &&& (255 : Int32)).toUInt32.toUInt16.toUInt32.toInt32))])
  obtain ⟨c2, hc2, r2⟩ : ∃ c, ((x2 &&& (255 : Int32)).toUInt32.toUInt16.toUInt32.toInt32) = c ∧ ¬ c < 0 ∧ ¬ (255 : Int32) < c := ⟨_, rfl, and255 _⟩
  rw [hc2]
  show Run _ _ _ _ _ _ _ _ _ _ _ _ T0 (mkF m 27 #[.val (.int len), .val (.int x0), .val (.int x1), .val (.int x2), .val (.int n), .val (.int c0), .val (.int c1), .unset, .unset, .unset, .unset] [(.int c2)])
  refine Run.via (fun _ => XS.istore X0.at X0.ex rfl (X0.de at_27) rfl (l' := #[.val (.int len), .val (.int x0), .val (.int x1), .val (.int x2), .val (.int n), .val (.int c0), .val (.int c1), .val (.int c2), .unset, .unset, .unset]) rfl) ?_
  show Run _ _ _ _ _ _ _ _ _ _ _ _ T0 (mkF m 29 #[.val (.int len), .val (.int x0), .val (.int x1), .val (.int x2), .val (.int n), .val (.int c0), .val (.int c1), .val (.int c2), .unset, .unset, .unset] [])
  refine Run.via (fun _ => XS.iload X0.at X0.ex rfl (X0.de at_29) rfl) ?_
  show Run _ _ _ _ _ _ _ _ _ _ _ _ T0 (mkF m 31 #[.val (.int len), .val (.int x0), .val (.int x1), .val (.int x2), .val (.int n), .val (.int c0), .val (.int c1), .val (.int c2), .unset, .unset, .unset] [(.int n)])
  have hn4 : n = 0 ∨ n = 1 ∨ n = 2 ∨ n = 3 := by rw [← hsz]; exact and_3 len
  rcases hn4 with rfl | rfl | rfl | rfl
  ·
    show Run _ _ _ _ _ _ _ _ _ _ _ _ T0 (mkF m 31 #[.val (.int len), .val (.int x0), .val (.int x1), .val (.int x2), .val (.int (0 : Int32)), .val (.int c0), .val (.int c1), .val (.int c2), .unset, .unset, .unset] [(.int (0 : Int32))])
    refine Run.via (fun _ => XS.ifNo X0.at X0.ex rfl (X0.de at_31) rfl ((if0 _ _).trans (teq (by decide : ((0 : Int32) = (0 : Int32)))).2)) ?_
    show Run _ _ _ _ _ _ _ _ _ _ _ _ T0 (mkF m 34 #[.val (.int len), .val (.int x0), .val (.int x1), .val (.int x2), .val (.int (0 : Int32)), .val (.int c0), .val (.int c1), .val (.int c2), .unset, .unset, .unset] [])
    have u101 := X0.kp.1
    have ho101 := O.1
    refine Run.new X0 (wd hw 0 rfl) (wd hw 1 rfl) (wd hw 2 rfl) at_34 (Nat.le_of_ble_eq_true rfl) (Nat.le_of_ble_eq_true rfl) ?_
    intro T102 h102 x102 g102 X102 K102 z102 E102 D102
    show Run _ _ _ _ _ _ _ _ _ _ _ _ T102 (mkF m 37 #[.val (.int len), .val (.int x0), .val (.int x1), .val (.int x2), .val (.int (0 : Int32)), .val (.int c0), .val (.int c1), .val (.int c2), .unset, .unset, .unset] [(.ref x102)])
    have G102 : Raw Z h102 x102 := ⟨E102, D102 (Or.inr (wd hw 16 rfl)) (ty := (.array .byte)) (by decide), D102 (Or.inr (wd hw 17 rfl)) (ty := .byte) (by decide)⟩
    have s102 := K102.1
    refine Run.via (fun _ => XS.dup X102.at X102.ex rfl (X102.de at_37) rfl rfl) ?_
    show Run _ _ _ _ _ _ _ _ _ _ _ _ T102 (mkF m 38 #[.val (.int len), .val (.int x0), .val (.int x1), .val (.int x2), .val (.int (0 : Int32)), .val (.int c0), .val (.int c1), .val (.int c2), .unset, .unset, .unset] [(.ref x102), (.ref x102)])
    refine Run.via (fun _ => XS.iconst X102.at X102.ex rfl (X102.de at_38)) ?_
    show Run _ _ _ _ _ _ _ _ _ _ _ _ T102 (mkF m 39 #[.val (.int len), .val (.int x0), .val (.int x1), .val (.int x2), .val (.int (0 : Int32)), .val (.int c0), .val (.int c1), .val (.int c2), .unset, .unset, .unset] [(.int (0 : Int32)), (.ref x102), (.ref x102)])
    refine Run.newarr X102 (aty := .char) (n := 0) (cap := 0) (wd hw 3 rfl) rfl at_39 rfl (Nat.le_refl _) (by decide) (Nat.le_of_ble_eq_true rfl) (Nat.le_of_ble_eq_true rfl) ?_
    intro T103 h103 x103 g103 X103 K103 z103 A103
    have A103 : Arc .char Z h103 x103 [] := A103
    show Run _ _ _ _ _ _ _ _ _ _ _ _ T103 (mkF m 41 #[.val (.int len), .val (.int x0), .val (.int x1), .val (.int x2), .val (.int (0 : Int32)), .val (.int c0), .val (.int c1), .val (.int c2), .unset, .unset, .unset] [(.ref x103), (.ref x102), (.ref x102)])
    have s103 := K103.1
    have G103 := G102.keep K103 nin0
    refine Run.callN X103 (y := (⟨"java/lang/String", "<init>", "([C)V"⟩ : MethodName)) (W := 1) (con_n1e l hw hN hm G103 A103 (by omega) X103.old) rfl (wd hw 4 rfl) (wd hw 5 rfl) (wd hw 2 rfl) (wd hw 6 rfl) (by decide) pd___C_V rfl (argsL := [(.ref x103)]) (rest := [(.ref x102)]) rfl (Nat.le_of_ble_eq_true rfl) rfl at_41 (by decide) (by decide) (Nat.le_of_ble_eq_true rfl) (Nat.le_of_ble_eq_true rfl) (fun y hy => by cases List.mem_singleton.mp hy; exact ⟨Or.inr (by omega), by omega⟩) (fun y hy => by cases List.mem_singleton.mp hy; simp) ?_
    intro v104 T104 h104 L104 q104 X104 XF104 K104
    obtain ⟨rfl, S104⟩ := q104
    show Run _ _ _ _ _ _ _ _ _ _ _ _ T104 (mkF m 44 #[.val (.int len), .val (.int x0), .val (.int x1), .val (.int x2), .val (.int (0 : Int32)), .val (.int c0), .val (.int c1), .val (.int c2), .unset, .unset, .unset] [(.ref x102)])
    refine Run.via (fun _ => XS.astore X104.at X104.ex rfl (X104.de at_44) rfl rfl (l' := #[.val (.int len), .val (.int x0), .val (.int x1), .val (.int x2), .val (.int (0 : Int32)), .val (.int c0), .val (.int c1), .val (.int c2), .val (.ref x102), .unset, .unset]) rfl) ?_
    show Run _ _ _ _ _ _ _ _ _ _ _ _ T104 (mkF m 46 #[.val (.int len), .val (.int x0), .val (.int x1), .val (.int x2), .val (.int (0 : Int32)), .val (.int c0), .val (.int c1), .val (.int c2), .val (.ref x102), .unset, .unset] [])
    refine Run.via (fun _ => XS.goto X104.at X104.ex rfl (pc0 := 46) (pc' := 133) rfl (X104.de at_46) (by decide) (by decide)) ?_
    show Run _ _ _ _ _ _ _ _ _ _ _ _ T104 (mkF m 133 #[.val (.int len), .val (.int x0), .val (.int x1), .val (.int x2), .val (.int (0 : Int32)), .val (.int c0), .val (.int c1), .val (.int c2), .val (.ref x102), .unset, .unset] [])
    have hlN : Lat ([] : List Int32) := ls0
    refine Run.via (fun _ => XS.aload X104.at X104.ex rfl (X104.de at_133) rfl rfl) ?_
    show Run _ _ _ _ _ _ _ _ _ _ _ _ T104 (mkF m 135 #[.val (.int len), .val (.int x0), .val (.int x1), .val (.int x2), .val (.int (0 : Int32)), .val (.int c0), .val (.int c1), .val (.int c2), .val (.ref x102), .unset, .unset] [(.ref x102)])
    refine Run.callS X104 (y := (⟨"com/example/veneer/veneer/VeneerException", "unbound", "(Ljava/lang/String;)Lcom/example/veneer/veneer/VeneerException;"⟩ : MethodName)) (W := 0) (con_ub l hw hS hN hmV hst SU SS (nl := ([] : List Int32)) hlN (Nat.le_of_ble_eq_true rfl) S104 X104.old) (wd hw 22 rfl) (wd hw 23 rfl) (wd hw 24 rfl) (wd hw 25 rfl) (by decide) pd__Ljava_lang_String__Lcom_example_veneer_veneer_VeneerException_ rfl (argsL := [(.ref x102)]) (rest := []) rfl (Nat.le_of_ble_eq_true rfl) rfl at_135 (by decide) (by decide) (Nat.le_of_ble_eq_true rfl) (Nat.le_of_ble_eq_true rfl) (nofun) (nofun) ?_
    intro v105 T105 h105 L105 q105 X105 XF105 K105
    obtain ⟨x, ms, rfl, EX, FX, SM⟩ := q105
    show Run _ _ _ _ _ _ _ _ _ _ _ _ T105 (mkF m 138 #[.val (.int len), .val (.int x0), .val (.int x1), .val (.int x2), .val (.int (0 : Int32)), .val (.int c0), .val (.int c1), .val (.int c2), .val (.ref x102), .unset, .unset] [(.ref x)])
    refine Run.via (fun _ => XS.astore X105.at X105.ex rfl (X105.de at_138) rfl rfl (l' := #[.val (.int len), .val (.int x0), .val (.int x1), .val (.int x2), .val (.int (0 : Int32)), .val (.int c0), .val (.int c1), .val (.int c2), .val (.ref x102), .val (.ref x), .unset]) rfl) ?_
    show Run _ _ _ _ _ _ _ _ _ _ _ _ T105 (mkF m 140 #[.val (.int len), .val (.int x0), .val (.int x1), .val (.int x2), .val (.int (0 : Int32)), .val (.int c0), .val (.int c1), .val (.int c2), .val (.ref x102), .val (.ref x), .unset] [])
    refine Run.via (fun _ => XS.aload X105.at X105.ex rfl (X105.de at_140) rfl rfl) ?_
    show Run _ _ _ _ _ _ _ _ _ _ _ _ T105 (mkF m 142 #[.val (.int len), .val (.int x0), .val (.int x1), .val (.int x2), .val (.int (0 : Int32)), .val (.int c0), .val (.int c1), .val (.int c2), .val (.ref x102), .val (.ref x), .unset] [(.ref x)])
    refine Run.via (fun _ => XT.ifnonnullYes X105.at X105.ex rfl (pc0 := 142) (pc' := 147) rfl (X105.de at_142) rfl (by decide) (by decide)) ?_
    show Run _ _ _ _ _ _ _ _ _ _ _ _ T105 (mkF m 147 #[.val (.int len), .val (.int x0), .val (.int x1), .val (.int x2), .val (.int (0 : Int32)), .val (.int c0), .val (.int c1), .val (.int c2), .val (.ref x102), .val (.ref x), .unset] [])
    refine Run.via (fun _ => XS.aload X105.at X105.ex rfl (X105.de at_147) rfl rfl) ?_
    show Run _ _ _ _ _ _ _ _ _ _ _ _ T105 (mkF m 149 #[.val (.int len), .val (.int x0), .val (.int x1), .val (.int x2), .val (.int (0 : Int32)), .val (.int c0), .val (.int c1), .val (.int c2), .val (.ref x102), .val (.ref x), .unset] [(.ref x)])
    refine Run.callW X105 (y := (⟨"com/example/veneer/veneer/VeneerException", "getMessage", "()Ljava/lang/String;"⟩ : MethodName)) (z := (⟨"java/lang/Throwable", "getMessage", "()Ljava/lang/String;"⟩ : MethodName)) (W := 0) (con_gm l hw FX X105.old) EX (wd hw 214 rfl) (wd hw 215 rfl) ⟨rfl, rfl⟩ (wd hw 217 rfl) (wd hw 218 rfl) (wd hw 175 rfl) (wd hw 219 rfl) (by decide) pd___Ljava_lang_String_ rfl (argsL := []) (rest := []) rfl (Nat.le_of_ble_eq_true rfl) rfl at_149 (by decide) (by decide) (Nat.le_of_ble_eq_true rfl) (Nat.le_of_ble_eq_true rfl) (nofun) (nofun) ?_
    intro v106 T106 h106 L106 q106 X106 XF106 K106
    obtain ⟨rfl, rfl⟩ := q106
    show Run _ _ _ _ _ _ _ _ _ _ _ _ T106 (mkF m 152 #[.val (.int len), .val (.int x0), .val (.int x1), .val (.int x2), .val (.int (0 : Int32)), .val (.int c0), .val (.int c1), .val (.int c2), .val (.ref x102), .val (.ref x), .unset] [(.ref ms)])
    refine Run.via (fun _ => XS.astore X106.at X106.ex rfl (X106.de at_152) rfl rfl (l' := #[.val (.int len), .val (.int x0), .val (.int x1), .val (.int x2), .val (.int (0 : Int32)), .val (.int c0), .val (.int c1), .val (.int c2), .val (.ref x102), .val (.ref x), .val (.ref ms)]) rfl) ?_
    show Run _ _ _ _ _ _ _ _ _ _ _ _ T106 (mkF m 154 #[.val (.int len), .val (.int x0), .val (.int x1), .val (.int x2), .val (.int (0 : Int32)), .val (.int c0), .val (.int c1), .val (.int c2), .val (.ref x102), .val (.ref x), .val (.ref ms)] [])
    refine Run.via (fun _ => XS.aload X106.at X106.ex rfl (X106.de at_154) rfl rfl) ?_
    show Run _ _ _ _ _ _ _ _ _ _ _ _ T106 (mkF m 156 #[.val (.int len), .val (.int x0), .val (.int x1), .val (.int x2), .val (.int (0 : Int32)), .val (.int c0), .val (.int c1), .val (.int c2), .val (.ref x102), .val (.ref x), .val (.ref ms)] [(.ref ms)])
    refine Run.via (fun _ => XS.ifnullNo X106.at X106.ex rfl (X106.de at_156) rfl) ?_
    show Run _ _ _ _ _ _ _ _ _ _ _ _ T106 (mkF m 159 #[.val (.int len), .val (.int x0), .val (.int x1), .val (.int x2), .val (.int (0 : Int32)), .val (.int c0), .val (.int c1), .val (.int c2), .val (.ref x102), .val (.ref x), .val (.ref ms)] [])
    refine Run.via (fun _ => XS.aload X106.at X106.ex rfl (X106.de at_159) rfl rfl) ?_
    show Run _ _ _ _ _ _ _ _ _ _ _ _ T106 (mkF m 161 #[.val (.int len), .val (.int x0), .val (.int x1), .val (.int x2), .val (.int (0 : Int32)), .val (.int c0), .val (.int c1), .val (.int c2), .val (.ref x102), .val (.ref x), .val (.ref ms)] [(.ref ms)])
    refine Run.slen hw hS X106 (W := 0) SM (wd hw 220 rfl) (wd hw 57 rfl) (wd hw 58 rfl) (wd hw 59 rfl) (wd hw 1 rfl) at_161 rfl (Nat.le_of_ble_eq_true rfl) (by decide) (by decide) (Nat.le_of_ble_eq_true rfl) (Nat.le_of_ble_eq_true rfl) ?_
    intro T107 X107
    show Run _ _ _ _ _ _ _ _ _ _ _ _ T107 (mkF m 164 #[.val (.int len), .val (.int x0), .val (.int x1), .val (.int x2), .val (.int (0 : Int32)), .val (.int c0), .val (.int c1), .val (.int c2), .val (.ref x102), .val (.ref x), .val (.ref ms)] [(.int (32 : Int32))])
    refine Run.via (fun _ => XS.iload X107.at X107.ex rfl (X107.de at_164) rfl) ?_
    show Run _ _ _ _ _ _ _ _ _ _ _ _ T107 (mkF m 166 #[.val (.int len), .val (.int x0), .val (.int x1), .val (.int x2), .val (.int (0 : Int32)), .val (.int c0), .val (.int c1), .val (.int c2), .val (.ref x102), .val (.ref x), .val (.ref ms)] [(.int (0 : Int32)), (.int (32 : Int32))])
    refine Run.via (fun _ => XS.bipush X107.at X107.ex rfl (X107.de at_166)) ?_
    show Run _ _ _ _ _ _ _ _ _ _ _ _ T107 (mkF m 168 #[.val (.int len), .val (.int x0), .val (.int x1), .val (.int x2), .val (.int (0 : Int32)), .val (.int c0), .val (.int c1), .val (.int c2), .val (.ref x102), .val (.ref x), .val (.ref ms)] [(.int (32 : Int32)), (.int (0 : Int32)), (.int (32 : Int32))])
    refine Run.via (fun _ => XS.iadd X107.at X107.ex rfl (X107.de at_168) rfl) ?_
    show Run _ _ _ _ _ _ _ _ _ _ _ _ T107 (mkF m 169 #[.val (.int len), .val (.int x0), .val (.int x1), .val (.int x2), .val (.int (0 : Int32)), .val (.int c0), .val (.int c1), .val (.int c2), .val (.ref x102), .val (.ref x), .val (.ref ms)] [(.int (32 : Int32)), (.int (32 : Int32))])
    refine Run.via (fun _ => XS.icmpYes X107.at X107.ex rfl (pc0 := 169) (pc' := 174) rfl (X107.de at_169) rfl (teq (by decide : ((32 : Int32) = (32 : Int32)))).1 (by decide) (by decide)) ?_
    show Run _ _ _ _ _ _ _ _ _ _ _ _ T107 (mkF m 174 #[.val (.int len), .val (.int x0), .val (.int x1), .val (.int x2), .val (.int (0 : Int32)), .val (.int c0), .val (.int c1), .val (.int c2), .val (.ref x102), .val (.ref x), .val (.ref ms)] [])
    refine Run.via (fun _ => XS.iload X107.at X107.ex rfl (X107.de at_174) rfl) ?_
    show Run _ _ _ _ _ _ _ _ _ _ _ _ T107 (mkF m 176 #[.val (.int len), .val (.int x0), .val (.int x1), .val (.int x2), .val (.int (0 : Int32)), .val (.int c0), .val (.int c1), .val (.int c2), .val (.ref x102), .val (.ref x), .val (.ref ms)] [(.int (0 : Int32))])
    refine Run.via (fun _ => XS.ifYes X107.at X107.ex rfl (pc0 := 176) (pc' := 192) rfl (X107.de at_176) rfl ((if0 _ _).trans (flt (by decide : ¬ ((0 : Int32) < (0 : Int32)))).2.2.2) (by decide) (by decide)) ?_
    show Run _ _ _ _ _ _ _ _ _ _ _ _ T107 (mkF m 192 #[.val (.int len), .val (.int x0), .val (.int x1), .val (.int x2), .val (.int (0 : Int32)), .val (.int c0), .val (.int c1), .val (.int c2), .val (.ref x102), .val (.ref x), .val (.ref ms)] [])
    refine Run.via (fun _ => XS.iload X107.at X107.ex rfl (X107.de at_192) rfl) ?_
    show Run _ _ _ _ _ _ _ _ _ _ _ _ T107 (mkF m 194 #[.val (.int len), .val (.int x0), .val (.int x1), .val (.int x2), .val (.int (0 : Int32)), .val (.int c0), .val (.int c1), .val (.int c2), .val (.ref x102), .val (.ref x), .val (.ref ms)] [(.int (0 : Int32))])
    refine Run.via (fun _ => XS.iconst X107.at X107.ex rfl (X107.de at_194)) ?_
    show Run _ _ _ _ _ _ _ _ _ _ _ _ T107 (mkF m 195 #[.val (.int len), .val (.int x0), .val (.int x1), .val (.int x2), .val (.int (0 : Int32)), .val (.int c0), .val (.int c1), .val (.int c2), .val (.ref x102), .val (.ref x), .val (.ref ms)] [(.int (1 : Int32)), (.int (0 : Int32))])
    refine Run.via (fun _ => XS.icmpYes X107.at X107.ex rfl (pc0 := 195) (pc' := 211) rfl (X107.de at_195) rfl (flt (by decide : ¬ ((1 : Int32) < (0 : Int32)))).2.2.2 (by decide) (by decide)) ?_
    show Run _ _ _ _ _ _ _ _ _ _ _ _ T107 (mkF m 211 #[.val (.int len), .val (.int x0), .val (.int x1), .val (.int x2), .val (.int (0 : Int32)), .val (.int c0), .val (.int c1), .val (.int c2), .val (.ref x102), .val (.ref x), .val (.ref ms)] [])
    refine Run.via (fun _ => XS.iload X107.at X107.ex rfl (X107.de at_211) rfl) ?_
    show Run _ _ _ _ _ _ _ _ _ _ _ _ T107 (mkF m 213 #[.val (.int len), .val (.int x0), .val (.int x1), .val (.int x2), .val (.int (0 : Int32)), .val (.int c0), .val (.int c1), .val (.int c2), .val (.ref x102), .val (.ref x), .val (.ref ms)] [(.int (0 : Int32))])
    refine Run.via (fun _ => XS.iconst X107.at X107.ex rfl (X107.de at_213)) ?_
    show Run _ _ _ _ _ _ _ _ _ _ _ _ T107 (mkF m 214 #[.val (.int len), .val (.int x0), .val (.int x1), .val (.int x2), .val (.int (0 : Int32)), .val (.int c0), .val (.int c1), .val (.int c2), .val (.ref x102), .val (.ref x), .val (.ref ms)] [(.int (2 : Int32)), (.int (0 : Int32))])
    refine Run.via (fun _ => XS.icmpYes X107.at X107.ex rfl (pc0 := 214) (pc' := 230) rfl (X107.de at_214) rfl (flt (by decide : ¬ ((2 : Int32) < (0 : Int32)))).2.2.2 (by decide) (by decide)) ?_
    show Run _ _ _ _ _ _ _ _ _ _ _ _ T107 (mkF m 230 #[.val (.int len), .val (.int x0), .val (.int x1), .val (.int x2), .val (.int (0 : Int32)), .val (.int c0), .val (.int c1), .val (.int c2), .val (.ref x102), .val (.ref x), .val (.ref ms)] [])
    refine Run.via (fun _ => XS.aload X107.at X107.ex rfl (X107.de at_230) rfl rfl) ?_
    show Run _ _ _ _ _ _ _ _ _ _ _ _ T107 (mkF m 232 #[.val (.int len), .val (.int x0), .val (.int x1), .val (.int x2), .val (.int (0 : Int32)), .val (.int c0), .val (.int c1), .val (.int c2), .val (.ref x102), .val (.ref x), .val (.ref ms)] [(.ref ms)])
    refine Run.via (fun _ => XS.iload X107.at X107.ex rfl (X107.de at_232) rfl) ?_
    show Run _ _ _ _ _ _ _ _ _ _ _ _ T107 (mkF m 234 #[.val (.int len), .val (.int x0), .val (.int x1), .val (.int x2), .val (.int (0 : Int32)), .val (.int c0), .val (.int c1), .val (.int c2), .val (.ref x102), .val (.ref x), .val (.ref ms)] [(.int (0 : Int32)), (.ref ms)])
    refine Run.callS X107 (y := (⟨"com/example/veneer/veneer/VeneerExceptionUnboundPinLaw", "tail", "(Ljava/lang/String;I)Z"⟩ : MethodName)) (W := 0) (con_ta l hw hS hN hmP hlN (Nat.le_of_ble_eq_true rfl) SM X107.old) (wd hw 221 rfl) (wd hw 222 rfl) (wd hw 223 rfl) (wd hw 224 rfl) (by decide) pd__Ljava_lang_String_I_Z rfl (argsL := [(.ref ms), (.int (0 : Int32))]) (rest := []) rfl (Nat.le_of_ble_eq_true rfl) rfl at_234 (by decide) (by decide) (Nat.le_of_ble_eq_true rfl) (Nat.le_of_ble_eq_true rfl) (nofun) (nofun) ?_
    intro v108 T108 h108 L108 q108 X108 XF108 K108
    obtain rfl := q108
    show Run _ _ _ _ _ _ _ _ _ _ _ _ T108 (mkF m 237 #[.val (.int len), .val (.int x0), .val (.int x1), .val (.int x2), .val (.int (0 : Int32)), .val (.int c0), .val (.int c1), .val (.int c2), .val (.ref x102), .val (.ref x), .val (.ref ms)] [(.int (1 : Int32))])
    exact Run.retN X108 (t := .boolean) rfl (by simp) at_237 (Nat.le_of_ble_eq_true rfl) (Nat.le_of_ble_eq_true rfl) (rfl)
  ·
    show Run _ _ _ _ _ _ _ _ _ _ _ _ T0 (mkF m 31 #[.val (.int len), .val (.int x0), .val (.int x1), .val (.int x2), .val (.int (1 : Int32)), .val (.int c0), .val (.int c1), .val (.int c2), .unset, .unset, .unset] [(.int (1 : Int32))])
    refine Run.via (fun _ => XS.ifYes X0.at X0.ex rfl (pc0 := 31) (pc' := 49) rfl (X0.de at_31) rfl ((if0 _ _).trans (feq (by decide : ¬ ((1 : Int32) = (0 : Int32)))).2) (by decide) (by decide)) ?_
    show Run _ _ _ _ _ _ _ _ _ _ _ _ T0 (mkF m 49 #[.val (.int len), .val (.int x0), .val (.int x1), .val (.int x2), .val (.int (1 : Int32)), .val (.int c0), .val (.int c1), .val (.int c2), .unset, .unset, .unset] [])
    refine Run.via (fun _ => XS.iload X0.at X0.ex rfl (X0.de at_49) rfl) ?_
    show Run _ _ _ _ _ _ _ _ _ _ _ _ T0 (mkF m 51 #[.val (.int len), .val (.int x0), .val (.int x1), .val (.int x2), .val (.int (1 : Int32)), .val (.int c0), .val (.int c1), .val (.int c2), .unset, .unset, .unset] [(.int (1 : Int32))])
    refine Run.via (fun _ => XS.iconst X0.at X0.ex rfl (X0.de at_51)) ?_
    show Run _ _ _ _ _ _ _ _ _ _ _ _ T0 (mkF m 52 #[.val (.int len), .val (.int x0), .val (.int x1), .val (.int x2), .val (.int (1 : Int32)), .val (.int c0), .val (.int c1), .val (.int c2), .unset, .unset, .unset] [(.int (1 : Int32)), (.int (1 : Int32))])
    refine Run.via (fun _ => XS.icmpNo X0.at X0.ex rfl (X0.de at_52) rfl (teq (by decide : ((1 : Int32) = (1 : Int32)))).2) ?_
    show Run _ _ _ _ _ _ _ _ _ _ _ _ T0 (mkF m 55 #[.val (.int len), .val (.int x0), .val (.int x1), .val (.int x2), .val (.int (1 : Int32)), .val (.int c0), .val (.int c1), .val (.int c2), .unset, .unset, .unset] [])
    have u109 := X0.kp.1
    have ho109 := O.1
    refine Run.new X0 (wd hw 0 rfl) (wd hw 1 rfl) (wd hw 2 rfl) at_55 (Nat.le_of_ble_eq_true rfl) (Nat.le_of_ble_eq_true rfl) ?_
    intro T110 h110 x110 g110 X110 K110 z110 E110 D110
    show Run _ _ _ _ _ _ _ _ _ _ _ _ T110 (mkF m 58 #[.val (.int len), .val (.int x0), .val (.int x1), .val (.int x2), .val (.int (1 : Int32)), .val (.int c0), .val (.int c1), .val (.int c2), .unset, .unset, .unset] [(.ref x110)])
    have G110 : Raw Z h110 x110 := ⟨E110, D110 (Or.inr (wd hw 16 rfl)) (ty := (.array .byte)) (by decide), D110 (Or.inr (wd hw 17 rfl)) (ty := .byte) (by decide)⟩
    have s110 := K110.1
    refine Run.via (fun _ => XS.dup X110.at X110.ex rfl (X110.de at_58) rfl rfl) ?_
    show Run _ _ _ _ _ _ _ _ _ _ _ _ T110 (mkF m 59 #[.val (.int len), .val (.int x0), .val (.int x1), .val (.int x2), .val (.int (1 : Int32)), .val (.int c0), .val (.int c1), .val (.int c2), .unset, .unset, .unset] [(.ref x110), (.ref x110)])
    refine Run.via (fun _ => XS.iconst X110.at X110.ex rfl (X110.de at_59)) ?_
    show Run _ _ _ _ _ _ _ _ _ _ _ _ T110 (mkF m 60 #[.val (.int len), .val (.int x0), .val (.int x1), .val (.int x2), .val (.int (1 : Int32)), .val (.int c0), .val (.int c1), .val (.int c2), .unset, .unset, .unset] [(.int (1 : Int32)), (.ref x110), (.ref x110)])
    refine Run.newarr X110 (aty := .char) (n := 1) (cap := 1) (wd hw 3 rfl) rfl at_60 rfl (Nat.le_refl _) (by decide) (Nat.le_of_ble_eq_true rfl) (Nat.le_of_ble_eq_true rfl) ?_
    intro T111 h111 x111 g111 X111 K111 z111 A111
    have A111 : Arc .char Z h111 x111 [(0 : Int32)] := A111
    show Run _ _ _ _ _ _ _ _ _ _ _ _ T111 (mkF m 62 #[.val (.int len), .val (.int x0), .val (.int x1), .val (.int x2), .val (.int (1 : Int32)), .val (.int c0), .val (.int c1), .val (.int c2), .unset, .unset, .unset] [(.ref x111), (.ref x110), (.ref x110)])
    have s111 := K111.1
    have G111 := G110.keep K111 nin0
    refine Run.via (fun _ => XS.dup X111.at X111.ex rfl (X111.de at_62) rfl rfl) ?_
    show Run _ _ _ _ _ _ _ _ _ _ _ _ T111 (mkF m 63 #[.val (.int len), .val (.int x0), .val (.int x1), .val (.int x2), .val (.int (1 : Int32)), .val (.int c0), .val (.int c1), .val (.int c2), .unset, .unset, .unset] [(.ref x111), (.ref x111), (.ref x110), (.ref x110)])
    refine Run.via (fun _ => XS.iconst X111.at X111.ex rfl (X111.de at_63)) ?_
    show Run _ _ _ _ _ _ _ _ _ _ _ _ T111 (mkF m 64 #[.val (.int len), .val (.int x0), .val (.int x1), .val (.int x2), .val (.int (1 : Int32)), .val (.int c0), .val (.int c1), .val (.int c2), .unset, .unset, .unset] [(.int (0 : Int32)), (.ref x111), (.ref x111), (.ref x110), (.ref x110)])
    refine Run.via (fun _ => XS.iload X111.at X111.ex rfl (X111.de at_64) rfl) ?_
    show Run _ _ _ _ _ _ _ _ _ _ _ _ T111 (mkF m 66 #[.val (.int len), .val (.int x0), .val (.int x1), .val (.int x2), .val (.int (1 : Int32)), .val (.int c0), .val (.int c1), .val (.int c2), .unset, .unset, .unset] [(.int c0), (.int (0 : Int32)), (.ref x111), (.ref x111), (.ref x110), (.ref x110)])
    refine Run.castore X111 (i := 0) (v' := c0) A111 rfl (Nat.le_of_ble_eq_true rfl) (nar_lat r0) (Or.inr (by omega)) (by omega) at_66 ?_
    intro T112 h112 L112 X112 K112 z112 A112
    have A112 : Arc .char Z h112 x111 [c0] := A112
    show Run _ _ _ _ _ _ _ _ _ _ _ _ T112 (mkF m 67 #[.val (.int len), .val (.int x0), .val (.int x1), .val (.int x2), .val (.int (1 : Int32)), .val (.int c0), .val (.int c1), .val (.int c2), .unset, .unset, .unset] [(.ref x111), (.ref x110), (.ref x110)])
    have G112 := G111.keep K112 (ninS (neA (by omega)) nin0)
    have hcs113 : ∀ c ∈ ([c0] : List Int32), ¬ c < 0 ∧ ¬ (255 : Int32) < c := lsS r0 (ls0)
    refine Run.initStr hw hS X112 (cs := [c0]) (W := 1) G112 A112 hcs113 (Nat.le_of_ble_eq_true rfl) (wd hw 4 rfl) (wd hw 5 rfl) (wd hw 1 rfl) at_67 rfl (Or.inr (by omega)) (by omega) (by simp) (Nat.le_of_ble_eq_true rfl) (by decide) (by decide) (Nat.le_of_ble_eq_true rfl) (Nat.le_of_ble_eq_true rfl) ?_
    intro T113 h113 L113 X113 K113 S113
    show Run _ _ _ _ _ _ _ _ _ _ _ _ T113 (mkF m 70 #[.val (.int len), .val (.int x0), .val (.int x1), .val (.int x2), .val (.int (1 : Int32)), .val (.int c0), .val (.int c1), .val (.int c2), .unset, .unset, .unset] [(.ref x110)])
    refine Run.via (fun _ => XS.astore X113.at X113.ex rfl (X113.de at_70) rfl rfl (l' := #[.val (.int len), .val (.int x0), .val (.int x1), .val (.int x2), .val (.int (1 : Int32)), .val (.int c0), .val (.int c1), .val (.int c2), .val (.ref x110), .unset, .unset]) rfl) ?_
    show Run _ _ _ _ _ _ _ _ _ _ _ _ T113 (mkF m 72 #[.val (.int len), .val (.int x0), .val (.int x1), .val (.int x2), .val (.int (1 : Int32)), .val (.int c0), .val (.int c1), .val (.int c2), .val (.ref x110), .unset, .unset] [])
    refine Run.via (fun _ => XS.goto X113.at X113.ex rfl (pc0 := 72) (pc' := 133) rfl (X113.de at_72) (by decide) (by decide)) ?_
    show Run _ _ _ _ _ _ _ _ _ _ _ _ T113 (mkF m 133 #[.val (.int len), .val (.int x0), .val (.int x1), .val (.int x2), .val (.int (1 : Int32)), .val (.int c0), .val (.int c1), .val (.int c2), .val (.ref x110), .unset, .unset] [])
    have hlN : Lat ([c0] : List Int32) := lsS r0 (ls0)
    refine Run.via (fun _ => XS.aload X113.at X113.ex rfl (X113.de at_133) rfl rfl) ?_
    show Run _ _ _ _ _ _ _ _ _ _ _ _ T113 (mkF m 135 #[.val (.int len), .val (.int x0), .val (.int x1), .val (.int x2), .val (.int (1 : Int32)), .val (.int c0), .val (.int c1), .val (.int c2), .val (.ref x110), .unset, .unset] [(.ref x110)])
    refine Run.callS X113 (y := (⟨"com/example/veneer/veneer/VeneerException", "unbound", "(Ljava/lang/String;)Lcom/example/veneer/veneer/VeneerException;"⟩ : MethodName)) (W := 0) (con_ub l hw hS hN hmV hst SU SS (nl := ([c0] : List Int32)) hlN (Nat.le_of_ble_eq_true rfl) S113 X113.old) (wd hw 22 rfl) (wd hw 23 rfl) (wd hw 24 rfl) (wd hw 25 rfl) (by decide) pd__Ljava_lang_String__Lcom_example_veneer_veneer_VeneerException_ rfl (argsL := [(.ref x110)]) (rest := []) rfl (Nat.le_of_ble_eq_true rfl) rfl at_135 (by decide) (by decide) (Nat.le_of_ble_eq_true rfl) (Nat.le_of_ble_eq_true rfl) (nofun) (nofun) ?_
    intro v114 T114 h114 L114 q114 X114 XF114 K114
    obtain ⟨x, ms, rfl, EX, FX, SM⟩ := q114
    show Run _ _ _ _ _ _ _ _ _ _ _ _ T114 (mkF m 138 #[.val (.int len), .val (.int x0), .val (.int x1), .val (.int x2), .val (.int (1 : Int32)), .val (.int c0), .val (.int c1), .val (.int c2), .val (.ref x110), .unset, .unset] [(.ref x)])
    refine Run.via (fun _ => XS.astore X114.at X114.ex rfl (X114.de at_138) rfl rfl (l' := #[.val (.int len), .val (.int x0), .val (.int x1), .val (.int x2), .val (.int (1 : Int32)), .val (.int c0), .val (.int c1), .val (.int c2), .val (.ref x110), .val (.ref x), .unset]) rfl) ?_
    show Run _ _ _ _ _ _ _ _ _ _ _ _ T114 (mkF m 140 #[.val (.int len), .val (.int x0), .val (.int x1), .val (.int x2), .val (.int (1 : Int32)), .val (.int c0), .val (.int c1), .val (.int c2), .val (.ref x110), .val (.ref x), .unset] [])
    refine Run.via (fun _ => XS.aload X114.at X114.ex rfl (X114.de at_140) rfl rfl) ?_
    show Run _ _ _ _ _ _ _ _ _ _ _ _ T114 (mkF m 142 #[.val (.int len), .val (.int x0), .val (.int x1), .val (.int x2), .val (.int (1 : Int32)), .val (.int c0), .val (.int c1), .val (.int c2), .val (.ref x110), .val (.ref x), .unset] [(.ref x)])
    refine Run.via (fun _ => XT.ifnonnullYes X114.at X114.ex rfl (pc0 := 142) (pc' := 147) rfl (X114.de at_142) rfl (by decide) (by decide)) ?_
    show Run _ _ _ _ _ _ _ _ _ _ _ _ T114 (mkF m 147 #[.val (.int len), .val (.int x0), .val (.int x1), .val (.int x2), .val (.int (1 : Int32)), .val (.int c0), .val (.int c1), .val (.int c2), .val (.ref x110), .val (.ref x), .unset] [])
    refine Run.via (fun _ => XS.aload X114.at X114.ex rfl (X114.de at_147) rfl rfl) ?_
    show Run _ _ _ _ _ _ _ _ _ _ _ _ T114 (mkF m 149 #[.val (.int len), .val (.int x0), .val (.int x1), .val (.int x2), .val (.int (1 : Int32)), .val (.int c0), .val (.int c1), .val (.int c2), .val (.ref x110), .val (.ref x), .unset] [(.ref x)])
    refine Run.callW X114 (y := (⟨"com/example/veneer/veneer/VeneerException", "getMessage", "()Ljava/lang/String;"⟩ : MethodName)) (z := (⟨"java/lang/Throwable", "getMessage", "()Ljava/lang/String;"⟩ : MethodName)) (W := 0) (con_gm l hw FX X114.old) EX (wd hw 214 rfl) (wd hw 215 rfl) ⟨rfl, rfl⟩ (wd hw 217 rfl) (wd hw 218 rfl) (wd hw 175 rfl) (wd hw 219 rfl) (by decide) pd___Ljava_lang_String_ rfl (argsL := []) (rest := []) rfl (Nat.le_of_ble_eq_true rfl) rfl at_149 (by decide) (by decide) (Nat.le_of_ble_eq_true rfl) (Nat.le_of_ble_eq_true rfl) (nofun) (nofun) ?_
    intro v115 T115 h115 L115 q115 X115 XF115 K115
    obtain ⟨rfl, rfl⟩ := q115
    show Run _ _ _ _ _ _ _ _ _ _ _ _ T115 (mkF m 152 #[.val (.int len), .val (.int x0), .val (.int x1), .val (.int x2), .val (.int (1 : Int32)), .val (.int c0), .val (.int c1), .val (.int c2), .val (.ref x110), .val (.ref x), .unset] [(.ref ms)])
    refine Run.via (fun _ => XS.astore X115.at X115.ex rfl (X115.de at_152) rfl rfl (l' := #[.val (.int len), .val (.int x0), .val (.int x1), .val (.int x2), .val (.int (1 : Int32)), .val (.int c0), .val (.int c1), .val (.int c2), .val (.ref x110), .val (.ref x), .val (.ref ms)]) rfl) ?_
    show Run _ _ _ _ _ _ _ _ _ _ _ _ T115 (mkF m 154 #[.val (.int len), .val (.int x0), .val (.int x1), .val (.int x2), .val (.int (1 : Int32)), .val (.int c0), .val (.int c1), .val (.int c2), .val (.ref x110), .val (.ref x), .val (.ref ms)] [])
    refine Run.via (fun _ => XS.aload X115.at X115.ex rfl (X115.de at_154) rfl rfl) ?_
    show Run _ _ _ _ _ _ _ _ _ _ _ _ T115 (mkF m 156 #[.val (.int len), .val (.int x0), .val (.int x1), .val (.int x2), .val (.int (1 : Int32)), .val (.int c0), .val (.int c1), .val (.int c2), .val (.ref x110), .val (.ref x), .val (.ref ms)] [(.ref ms)])
    refine Run.via (fun _ => XS.ifnullNo X115.at X115.ex rfl (X115.de at_156) rfl) ?_
    show Run _ _ _ _ _ _ _ _ _ _ _ _ T115 (mkF m 159 #[.val (.int len), .val (.int x0), .val (.int x1), .val (.int x2), .val (.int (1 : Int32)), .val (.int c0), .val (.int c1), .val (.int c2), .val (.ref x110), .val (.ref x), .val (.ref ms)] [])
    refine Run.via (fun _ => XS.aload X115.at X115.ex rfl (X115.de at_159) rfl rfl) ?_
    show Run _ _ _ _ _ _ _ _ _ _ _ _ T115 (mkF m 161 #[.val (.int len), .val (.int x0), .val (.int x1), .val (.int x2), .val (.int (1 : Int32)), .val (.int c0), .val (.int c1), .val (.int c2), .val (.ref x110), .val (.ref x), .val (.ref ms)] [(.ref ms)])
    refine Run.slen hw hS X115 (W := 0) SM (wd hw 220 rfl) (wd hw 57 rfl) (wd hw 58 rfl) (wd hw 59 rfl) (wd hw 1 rfl) at_161 rfl (Nat.le_of_ble_eq_true rfl) (by decide) (by decide) (Nat.le_of_ble_eq_true rfl) (Nat.le_of_ble_eq_true rfl) ?_
    intro T116 X116
    show Run _ _ _ _ _ _ _ _ _ _ _ _ T116 (mkF m 164 #[.val (.int len), .val (.int x0), .val (.int x1), .val (.int x2), .val (.int (1 : Int32)), .val (.int c0), .val (.int c1), .val (.int c2), .val (.ref x110), .val (.ref x), .val (.ref ms)] [(.int (33 : Int32))])
    refine Run.via (fun _ => XS.iload X116.at X116.ex rfl (X116.de at_164) rfl) ?_
    show Run _ _ _ _ _ _ _ _ _ _ _ _ T116 (mkF m 166 #[.val (.int len), .val (.int x0), .val (.int x1), .val (.int x2), .val (.int (1 : Int32)), .val (.int c0), .val (.int c1), .val (.int c2), .val (.ref x110), .val (.ref x), .val (.ref ms)] [(.int (1 : Int32)), (.int (33 : Int32))])
    refine Run.via (fun _ => XS.bipush X116.at X116.ex rfl (X116.de at_166)) ?_
    show Run _ _ _ _ _ _ _ _ _ _ _ _ T116 (mkF m 168 #[.val (.int len), .val (.int x0), .val (.int x1), .val (.int x2), .val (.int (1 : Int32)), .val (.int c0), .val (.int c1), .val (.int c2), .val (.ref x110), .val (.ref x), .val (.ref ms)] [(.int (32 : Int32)), (.int (1 : Int32)), (.int (33 : Int32))])
    refine Run.via (fun _ => XS.iadd X116.at X116.ex rfl (X116.de at_168) rfl) ?_
    show Run _ _ _ _ _ _ _ _ _ _ _ _ T116 (mkF m 169 #[.val (.int len), .val (.int x0), .val (.int x1), .val (.int x2), .val (.int (1 : Int32)), .val (.int c0), .val (.int c1), .val (.int c2), .val (.ref x110), .val (.ref x), .val (.ref ms)] [(.int (33 : Int32)), (.int (33 : Int32))])
    refine Run.via (fun _ => XS.icmpYes X116.at X116.ex rfl (pc0 := 169) (pc' := 174) rfl (X116.de at_169) rfl (teq (by decide : ((33 : Int32) = (33 : Int32)))).1 (by decide) (by decide)) ?_
    show Run _ _ _ _ _ _ _ _ _ _ _ _ T116 (mkF m 174 #[.val (.int len), .val (.int x0), .val (.int x1), .val (.int x2), .val (.int (1 : Int32)), .val (.int c0), .val (.int c1), .val (.int c2), .val (.ref x110), .val (.ref x), .val (.ref ms)] [])
    refine Run.via (fun _ => XS.iload X116.at X116.ex rfl (X116.de at_174) rfl) ?_
    show Run _ _ _ _ _ _ _ _ _ _ _ _ T116 (mkF m 176 #[.val (.int len), .val (.int x0), .val (.int x1), .val (.int x2), .val (.int (1 : Int32)), .val (.int c0), .val (.int c1), .val (.int c2), .val (.ref x110), .val (.ref x), .val (.ref ms)] [(.int (1 : Int32))])
    refine Run.via (fun _ => XS.ifNo X116.at X116.ex rfl (X116.de at_176) rfl ((if0 _ _).trans (tlt (by decide : ((0 : Int32) < (1 : Int32)))).2.2.2)) ?_
    show Run _ _ _ _ _ _ _ _ _ _ _ _ T116 (mkF m 179 #[.val (.int len), .val (.int x0), .val (.int x1), .val (.int x2), .val (.int (1 : Int32)), .val (.int c0), .val (.int c1), .val (.int c2), .val (.ref x110), .val (.ref x), .val (.ref ms)] [])
    refine Run.via (fun _ => XS.aload X116.at X116.ex rfl (X116.de at_179) rfl rfl) ?_
    show Run _ _ _ _ _ _ _ _ _ _ _ _ T116 (mkF m 181 #[.val (.int len), .val (.int x0), .val (.int x1), .val (.int x2), .val (.int (1 : Int32)), .val (.int c0), .val (.int c1), .val (.int c2), .val (.ref x110), .val (.ref x), .val (.ref ms)] [(.ref ms)])
    refine Run.via (fun _ => XS.iconst X116.at X116.ex rfl (X116.de at_181)) ?_
    show Run _ _ _ _ _ _ _ _ _ _ _ _ T116 (mkF m 182 #[.val (.int len), .val (.int x0), .val (.int x1), .val (.int x2), .val (.int (1 : Int32)), .val (.int c0), .val (.int c1), .val (.int c2), .val (.ref x110), .val (.ref x), .val (.ref ms)] [(.int (0 : Int32)), (.ref ms)])
    refine Run.sch hw hS X116 (W := 0) SM (fun c q => ((List.mem_append.mp q).elim (hlN c) (latTX c)).2) rfl (Nat.le_of_ble_eq_true rfl) (wd hw 226 rfl) (wd hw 227 rfl) (wd hw 228 rfl) (wd hw 229 rfl) (wd hw 1 rfl) at_182 rfl (Nat.le_of_ble_eq_true rfl) (by decide) (by decide) (Nat.le_of_ble_eq_true rfl) (Nat.le_of_ble_eq_true rfl) ?_
    intro T117 X117
    show Run _ _ _ _ _ _ _ _ _ _ _ _ T117 (mkF m 185 #[.val (.int len), .val (.int x0), .val (.int x1), .val (.int x2), .val (.int (1 : Int32)), .val (.int c0), .val (.int c1), .val (.int c2), .val (.ref x110), .val (.ref x), .val (.ref ms)] [(.int c0)])
    refine Run.via (fun _ => XS.iload X117.at X117.ex rfl (X117.de at_185) rfl) ?_
    show Run _ _ _ _ _ _ _ _ _ _ _ _ T117 (mkF m 187 #[.val (.int len), .val (.int x0), .val (.int x1), .val (.int x2), .val (.int (1 : Int32)), .val (.int c0), .val (.int c1), .val (.int c2), .val (.ref x110), .val (.ref x), .val (.ref ms)] [(.int c0), (.int c0)])
    refine Run.via (fun _ => XS.icmpYes X117.at X117.ex rfl (pc0 := 187) (pc' := 192) rfl (X117.de at_187) rfl (teq (rfl : c0 = c0)).1 (by decide) (by decide)) ?_
    show Run _ _ _ _ _ _ _ _ _ _ _ _ T117 (mkF m 192 #[.val (.int len), .val (.int x0), .val (.int x1), .val (.int x2), .val (.int (1 : Int32)), .val (.int c0), .val (.int c1), .val (.int c2), .val (.ref x110), .val (.ref x), .val (.ref ms)] [])
    refine Run.via (fun _ => XS.iload X117.at X117.ex rfl (X117.de at_192) rfl) ?_
    show Run _ _ _ _ _ _ _ _ _ _ _ _ T117 (mkF m 194 #[.val (.int len), .val (.int x0), .val (.int x1), .val (.int x2), .val (.int (1 : Int32)), .val (.int c0), .val (.int c1), .val (.int c2), .val (.ref x110), .val (.ref x), .val (.ref ms)] [(.int (1 : Int32))])
    refine Run.via (fun _ => XS.iconst X117.at X117.ex rfl (X117.de at_194)) ?_
    show Run _ _ _ _ _ _ _ _ _ _ _ _ T117 (mkF m 195 #[.val (.int len), .val (.int x0), .val (.int x1), .val (.int x2), .val (.int (1 : Int32)), .val (.int c0), .val (.int c1), .val (.int c2), .val (.ref x110), .val (.ref x), .val (.ref ms)] [(.int (1 : Int32)), (.int (1 : Int32))])
    refine Run.via (fun _ => XS.icmpYes X117.at X117.ex rfl (pc0 := 195) (pc' := 211) rfl (X117.de at_195) rfl (flt (by decide : ¬ ((1 : Int32) < (1 : Int32)))).2.2.2 (by decide) (by decide)) ?_
    show Run _ _ _ _ _ _ _ _ _ _ _ _ T117 (mkF m 211 #[.val (.int len), .val (.int x0), .val (.int x1), .val (.int x2), .val (.int (1 : Int32)), .val (.int c0), .val (.int c1), .val (.int c2), .val (.ref x110), .val (.ref x), .val (.ref ms)] [])
    refine Run.via (fun _ => XS.iload X117.at X117.ex rfl (X117.de at_211) rfl) ?_
    show Run _ _ _ _ _ _ _ _ _ _ _ _ T117 (mkF m 213 #[.val (.int len), .val (.int x0), .val (.int x1), .val (.int x2), .val (.int (1 : Int32)), .val (.int c0), .val (.int c1), .val (.int c2), .val (.ref x110), .val (.ref x), .val (.ref ms)] [(.int (1 : Int32))])
    refine Run.via (fun _ => XS.iconst X117.at X117.ex rfl (X117.de at_213)) ?_
    show Run _ _ _ _ _ _ _ _ _ _ _ _ T117 (mkF m 214 #[.val (.int len), .val (.int x0), .val (.int x1), .val (.int x2), .val (.int (1 : Int32)), .val (.int c0), .val (.int c1), .val (.int c2), .val (.ref x110), .val (.ref x), .val (.ref ms)] [(.int (2 : Int32)), (.int (1 : Int32))])
    refine Run.via (fun _ => XS.icmpYes X117.at X117.ex rfl (pc0 := 214) (pc' := 230) rfl (X117.de at_214) rfl (flt (by decide : ¬ ((2 : Int32) < (1 : Int32)))).2.2.2 (by decide) (by decide)) ?_
    show Run _ _ _ _ _ _ _ _ _ _ _ _ T117 (mkF m 230 #[.val (.int len), .val (.int x0), .val (.int x1), .val (.int x2), .val (.int (1 : Int32)), .val (.int c0), .val (.int c1), .val (.int c2), .val (.ref x110), .val (.ref x), .val (.ref ms)] [])
    refine Run.via (fun _ => XS.aload X117.at X117.ex rfl (X117.de at_230) rfl rfl) ?_
    show Run _ _ _ _ _ _ _ _ _ _ _ _ T117 (mkF m 232 #[.val (.int len), .val (.int x0), .val (.int x1), .val (.int x2), .val (.int (1 : Int32)), .val (.int c0), .val (.int c1), .val (.int c2), .val (.ref x110), .val (.ref x), .val (.ref ms)] [(.ref ms)])
    refine Run.via (fun _ => XS.iload X117.at X117.ex rfl (X117.de at_232) rfl) ?_
    show Run _ _ _ _ _ _ _ _ _ _ _ _ T117 (mkF m 234 #[.val (.int len), .val (.int x0), .val (.int x1), .val (.int x2), .val (.int (1 : Int32)), .val (.int c0), .val (.int c1), .val (.int c2), .val (.ref x110), .val (.ref x), .val (.ref ms)] [(.int (1 : Int32)), (.ref ms)])
    refine Run.callS X117 (y := (⟨"com/example/veneer/veneer/VeneerExceptionUnboundPinLaw", "tail", "(Ljava/lang/String;I)Z"⟩ : MethodName)) (W := 0) (con_ta l hw hS hN hmP hlN (Nat.le_of_ble_eq_true rfl) SM X117.old) (wd hw 221 rfl) (wd hw 222 rfl) (wd hw 223 rfl) (wd hw 224 rfl) (by decide) pd__Ljava_lang_String_I_Z rfl (argsL := [(.ref ms), (.int (1 : Int32))]) (rest := []) rfl (Nat.le_of_ble_eq_true rfl) rfl at_234 (by decide) (by decide) (Nat.le_of_ble_eq_true rfl) (Nat.le_of_ble_eq_true rfl) (nofun) (nofun) ?_
    intro v118 T118 h118 L118 q118 X118 XF118 K118
    obtain rfl := q118
    show Run _ _ _ _ _ _ _ _ _ _ _ _ T118 (mkF m 237 #[.val (.int len), .val (.int x0), .val (.int x1), .val (.int x2), .val (.int (1 : Int32)), .val (.int c0), .val (.int c1), .val (.int c2), .val (.ref x110), .val (.ref x), .val (.ref ms)] [(.int (1 : Int32))])
    exact Run.retN X118 (t := .boolean) rfl (by simp) at_237 (Nat.le_of_ble_eq_true rfl) (Nat.le_of_ble_eq_true rfl) (rfl)
  ·
    show Run _ _ _ _ _ _ _ _ _ _ _ _ T0 (mkF m 31 #[.val (.int len), .val (.int x0), .val (.int x1), .val (.int x2), .val (.int (2 : Int32)), .val (.int c0), .val (.int c1), .val (.int c2), .unset, .unset, .unset] [(.int (2 : Int32))])
    refine Run.via (fun _ => XS.ifYes X0.at X0.ex rfl (pc0 := 31) (pc' := 49) rfl (X0.de at_31) rfl ((if0 _ _).trans (feq (by decide : ¬ ((2 : Int32) = (0 : Int32)))).2) (by decide) (by decide)) ?_
    show Run _ _ _ _ _ _ _ _ _ _ _ _ T0 (mkF m 49 #[.val (.int len), .val (.int x0), .val (.int x1), .val (.int x2), .val (.int (2 : Int32)), .val (.int c0), .val (.int c1), .val (.int c2), .unset, .unset, .unset] [])
    refine Run.via (fun _ => XS.iload X0.at X0.ex rfl (X0.de at_49) rfl) ?_
    show Run _ _ _ _ _ _ _ _ _ _ _ _ T0 (mkF m 51 #[.val (.int len), .val (.int x0), .val (.int x1), .val (.int x2), .val (.int (2 : Int32)), .val (.int c0), .val (.int c1), .val (.int c2), .unset, .unset, .unset] [(.int (2 : Int32))])
    refine Run.via (fun _ => XS.iconst X0.at X0.ex rfl (X0.de at_51)) ?_
    show Run _ _ _ _ _ _ _ _ _ _ _ _ T0 (mkF m 52 #[.val (.int len), .val (.int x0), .val (.int x1), .val (.int x2), .val (.int (2 : Int32)), .val (.int c0), .val (.int c1), .val (.int c2), .unset, .unset, .unset] [(.int (1 : Int32)), (.int (2 : Int32))])
    refine Run.via (fun _ => XS.icmpYes X0.at X0.ex rfl (pc0 := 52) (pc' := 75) rfl (X0.de at_52) rfl (feq (by decide : ¬ ((2 : Int32) = (1 : Int32)))).2 (by decide) (by decide)) ?_
    show Run _ _ _ _ _ _ _ _ _ _ _ _ T0 (mkF m 75 #[.val (.int len), .val (.int x0), .val (.int x1), .val (.int x2), .val (.int (2 : Int32)), .val (.int c0), .val (.int c1), .val (.int c2), .unset, .unset, .unset] [])
    refine Run.via (fun _ => XS.iload X0.at X0.ex rfl (X0.de at_75) rfl) ?_
    show Run _ _ _ _ _ _ _ _ _ _ _ _ T0 (mkF m 77 #[.val (.int len), .val (.int x0), .val (.int x1), .val (.int x2), .val (.int (2 : Int32)), .val (.int c0), .val (.int c1), .val (.int c2), .unset, .unset, .unset] [(.int (2 : Int32))])
    refine Run.via (fun _ => XS.iconst X0.at X0.ex rfl (X0.de at_77)) ?_
    show Run _ _ _ _ _ _ _ _ _ _ _ _ T0 (mkF m 78 #[.val (.int len), .val (.int x0), .val (.int x1), .val (.int x2), .val (.int (2 : Int32)), .val (.int c0), .val (.int c1), .val (.int c2), .unset, .unset, .unset] [(.int (2 : Int32)), (.int (2 : Int32))])
    refine Run.via (fun _ => XS.icmpNo X0.at X0.ex rfl (X0.de at_78) rfl (teq (by decide : ((2 : Int32) = (2 : Int32)))).2) ?_
    show Run _ _ _ _ _ _ _ _ _ _ _ _ T0 (mkF m 81 #[.val (.int len), .val (.int x0), .val (.int x1), .val (.int x2), .val (.int (2 : Int32)), .val (.int c0), .val (.int c1), .val (.int c2), .unset, .unset, .unset] [])
    have u119 := X0.kp.1
    have ho119 := O.1
    refine Run.new X0 (wd hw 0 rfl) (wd hw 1 rfl) (wd hw 2 rfl) at_81 (Nat.le_of_ble_eq_true rfl) (Nat.le_of_ble_eq_true rfl) ?_
    intro T120 h120 x120 g120 X120 K120 z120 E120 D120
    show Run _ _ _ _ _ _ _ _ _ _ _ _ T120 (mkF m 84 #[.val (.int len), .val (.int x0), .val (.int x1), .val (.int x2), .val (.int (2 : Int32)), .val (.int c0), .val (.int c1), .val (.int c2), .unset, .unset, .unset] [(.ref x120)])
    have G120 : Raw Z h120 x120 := ⟨E120, D120 (Or.inr (wd hw 16 rfl)) (ty := (.array .byte)) (by decide), D120 (Or.inr (wd hw 17 rfl)) (ty := .byte) (by decide)⟩
    have s120 := K120.1
    refine Run.via (fun _ => XS.dup X120.at X120.ex rfl (X120.de at_84) rfl rfl) ?_
    show Run _ _ _ _ _ _ _ _ _ _ _ _ T120 (mkF m 85 #[.val (.int len), .val (.int x0), .val (.int x1), .val (.int x2), .val (.int (2 : Int32)), .val (.int c0), .val (.int c1), .val (.int c2), .unset, .unset, .unset] [(.ref x120), (.ref x120)])
    refine Run.via (fun _ => XS.iconst X120.at X120.ex rfl (X120.de at_85)) ?_
    show Run _ _ _ _ _ _ _ _ _ _ _ _ T120 (mkF m 86 #[.val (.int len), .val (.int x0), .val (.int x1), .val (.int x2), .val (.int (2 : Int32)), .val (.int c0), .val (.int c1), .val (.int c2), .unset, .unset, .unset] [(.int (2 : Int32)), (.ref x120), (.ref x120)])
    refine Run.newarr X120 (aty := .char) (n := 2) (cap := 2) (wd hw 3 rfl) rfl at_86 rfl (Nat.le_refl _) (by decide) (Nat.le_of_ble_eq_true rfl) (Nat.le_of_ble_eq_true rfl) ?_
    intro T121 h121 x121 g121 X121 K121 z121 A121
    have A121 : Arc .char Z h121 x121 [(0 : Int32), (0 : Int32)] := A121
    show Run _ _ _ _ _ _ _ _ _ _ _ _ T121 (mkF m 88 #[.val (.int len), .val (.int x0), .val (.int x1), .val (.int x2), .val (.int (2 : Int32)), .val (.int c0), .val (.int c1), .val (.int c2), .unset, .unset, .unset] [(.ref x121), (.ref x120), (.ref x120)])
    have s121 := K121.1
    have G121 := G120.keep K121 nin0
    refine Run.via (fun _ => XS.dup X121.at X121.ex rfl (X121.de at_88) rfl rfl) ?_
    show Run _ _ _ _ _ _ _ _ _ _ _ _ T121 (mkF m 89 #[.val (.int len), .val (.int x0), .val (.int x1), .val (.int x2), .val (.int (2 : Int32)), .val (.int c0), .val (.int c1), .val (.int c2), .unset, .unset, .unset] [(.ref x121), (.ref x121), (.ref x120), (.ref x120)])
    refine Run.via (fun _ => XS.iconst X121.at X121.ex rfl (X121.de at_89)) ?_
    show Run _ _ _ _ _ _ _ _ _ _ _ _ T121 (mkF m 90 #[.val (.int len), .val (.int x0), .val (.int x1), .val (.int x2), .val (.int (2 : Int32)), .val (.int c0), .val (.int c1), .val (.int c2), .unset, .unset, .unset] [(.int (0 : Int32)), (.ref x121), (.ref x121), (.ref x120), (.ref x120)])
    refine Run.via (fun _ => XS.iload X121.at X121.ex rfl (X121.de at_90) rfl) ?_
    show Run _ _ _ _ _ _ _ _ _ _ _ _ T121 (mkF m 92 #[.val (.int len), .val (.int x0), .val (.int x1), .val (.int x2), .val (.int (2 : Int32)), .val (.int c0), .val (.int c1), .val (.int c2), .unset, .unset, .unset] [(.int c0), (.int (0 : Int32)), (.ref x121), (.ref x121), (.ref x120), (.ref x120)])
    refine Run.castore X121 (i := 0) (v' := c0) A121 rfl (Nat.le_of_ble_eq_true rfl) (nar_lat r0) (Or.inr (by omega)) (by omega) at_92 ?_
    intro T122 h122 L122 X122 K122 z122 A122
    have A122 : Arc .char Z h122 x121 [c0, (0 : Int32)] := A122
    show Run _ _ _ _ _ _ _ _ _ _ _ _ T122 (mkF m 93 #[.val (.int len), .val (.int x0), .val (.int x1), .val (.int x2), .val (.int (2 : Int32)), .val (.int c0), .val (.int c1), .val (.int c2), .unset, .unset, .unset] [(.ref x121), (.ref x120), (.ref x120)])
    have G122 := G121.keep K122 (ninS (neA (by omega)) nin0)
    refine Run.via (fun _ => XS.dup X122.at X122.ex rfl (X122.de at_93) rfl rfl) ?_
    show Run _ _ _ _ _ _ _ _ _ _ _ _ T122 (mkF m 94 #[.val (.int len), .val (.int x0), .val (.int x1), .val (.int x2), .val (.int (2 : Int32)), .val (.int c0), .val (.int c1), .val (.int c2), .unset, .unset, .unset] [(.ref x121), (.ref x121), (.ref x120), (.ref x120)])
    refine Run.via (fun _ => XS.iconst X122.at X122.ex rfl (X122.de at_94)) ?_
    show Run _ _ _ _ _ _ _ _ _ _ _ _ T122 (mkF m 95 #[.val (.int len), .val (.int x0), .val (.int x1), .val (.int x2), .val (.int (2 : Int32)), .val (.int c0), .val (.int c1), .val (.int c2), .unset, .unset, .unset] [(.int (1 : Int32)), (.ref x121), (.ref x121), (.ref x120), (.ref x120)])
    refine Run.via (fun _ => XS.iload X122.at X122.ex rfl (X122.de at_95) rfl) ?_
    show Run _ _ _ _ _ _ _ _ _ _ _ _ T122 (mkF m 97 #[.val (.int len), .val (.int x0), .val (.int x1), .val (.int x2), .val (.int (2 : Int32)), .val (.int c0), .val (.int c1), .val (.int c2), .unset, .unset, .unset] [(.int c1), (.int (1 : Int32)), (.ref x121), (.ref x121), (.ref x120), (.ref x120)])
    refine Run.castore X122 (i := 1) (v' := c1) A122 rfl (Nat.le_of_ble_eq_true rfl) (nar_lat r1) (Or.inr (by omega)) (by omega) at_97 ?_
    intro T123 h123 L123 X123 K123 z123 A123
    have A123 : Arc .char Z h123 x121 [c0, c1] := A123
    show Run _ _ _ _ _ _ _ _ _ _ _ _ T123 (mkF m 98 #[.val (.int len), .val (.int x0), .val (.int x1), .val (.int x2), .val (.int (2 : Int32)), .val (.int c0), .val (.int c1), .val (.int c2), .unset, .unset, .unset] [(.ref x121), (.ref x120), (.ref x120)])
    have G123 := G122.keep K123 (ninS (neA (by omega)) nin0)
    have hcs124 : ∀ c ∈ ([c0, c1] : List Int32), ¬ c < 0 ∧ ¬ (255 : Int32) < c := lsS r0 (lsS r1 (ls0))
    refine Run.initStr hw hS X123 (cs := [c0, c1]) (W := 1) G123 A123 hcs124 (Nat.le_of_ble_eq_true rfl) (wd hw 4 rfl) (wd hw 5 rfl) (wd hw 1 rfl) at_98 rfl (Or.inr (by omega)) (by omega) (by simp) (Nat.le_of_ble_eq_true rfl) (by decide) (by decide) (Nat.le_of_ble_eq_true rfl) (Nat.le_of_ble_eq_true rfl) ?_
    intro T124 h124 L124 X124 K124 S124
    show Run _ _ _ _ _ _ _ _ _ _ _ _ T124 (mkF m 101 #[.val (.int len), .val (.int x0), .val (.int x1), .val (.int x2), .val (.int (2 : Int32)), .val (.int c0), .val (.int c1), .val (.int c2), .unset, .unset, .unset] [(.ref x120)])
    refine Run.via (fun _ => XS.astore X124.at X124.ex rfl (X124.de at_101) rfl rfl (l' := #[.val (.int len), .val (.int x0), .val (.int x1), .val (.int x2), .val (.int (2 : Int32)), .val (.int c0), .val (.int c1), .val (.int c2), .val (.ref x120), .unset, .unset]) rfl) ?_
    show Run _ _ _ _ _ _ _ _ _ _ _ _ T124 (mkF m 103 #[.val (.int len), .val (.int x0), .val (.int x1), .val (.int x2), .val (.int (2 : Int32)), .val (.int c0), .val (.int c1), .val (.int c2), .val (.ref x120), .unset, .unset] [])
    refine Run.via (fun _ => XS.goto X124.at X124.ex rfl (pc0 := 103) (pc' := 133) rfl (X124.de at_103) (by decide) (by decide)) ?_
    show Run _ _ _ _ _ _ _ _ _ _ _ _ T124 (mkF m 133 #[.val (.int len), .val (.int x0), .val (.int x1), .val (.int x2), .val (.int (2 : Int32)), .val (.int c0), .val (.int c1), .val (.int c2), .val (.ref x120), .unset, .unset] [])
    have hlN : Lat ([c0, c1] : List Int32) := lsS r0 (lsS r1 (ls0))
    refine Run.via (fun _ => XS.aload X124.at X124.ex rfl (X124.de at_133) rfl rfl) ?_
    show Run _ _ _ _ _ _ _ _ _ _ _ _ T124 (mkF m 135 #[.val (.int len), .val (.int x0), .val (.int x1), .val (.int x2), .val (.int (2 : Int32)), .val (.int c0), .val (.int c1), .val (.int c2), .val (.ref x120), .unset, .unset] [(.ref x120)])
    refine Run.callS X124 (y := (⟨"com/example/veneer/veneer/VeneerException", "unbound", "(Ljava/lang/String;)Lcom/example/veneer/veneer/VeneerException;"⟩ : MethodName)) (W := 0) (con_ub l hw hS hN hmV hst SU SS (nl := ([c0, c1] : List Int32)) hlN (Nat.le_of_ble_eq_true rfl) S124 X124.old) (wd hw 22 rfl) (wd hw 23 rfl) (wd hw 24 rfl) (wd hw 25 rfl) (by decide) pd__Ljava_lang_String__Lcom_example_veneer_veneer_VeneerException_ rfl (argsL := [(.ref x120)]) (rest := []) rfl (Nat.le_of_ble_eq_true rfl) rfl at_135 (by decide) (by decide) (Nat.le_of_ble_eq_true rfl) (Nat.le_of_ble_eq_true rfl) (nofun) (nofun) ?_
    intro v125 T125 h125 L125 q125 X125 XF125 K125
    obtain ⟨x, ms, rfl, EX, FX, SM⟩ := q125
    show Run _ _ _ _ _ _ _ _ _ _ _ _ T125 (mkF m 138 #[.val (.int len), .val (.int x0), .val (.int x1), .val (.int x2), .val (.int (2 : Int32)), .val (.int c0), .val (.int c1), .val (.int c2), .val (.ref x120), .unset, .unset] [(.ref x)])
    refine Run.via (fun _ => XS.astore X125.at X125.ex rfl (X125.de at_138) rfl rfl (l' := #[.val (.int len), .val (.int x0), .val (.int x1), .val (.int x2), .val (.int (2 : Int32)), .val (.int c0), .val (.int c1), .val (.int c2), .val (.ref x120), .val (.ref x), .unset]) rfl) ?_
    show Run _ _ _ _ _ _ _ _ _ _ _ _ T125 (mkF m 140 #[.val (.int len), .val (.int x0), .val (.int x1), .val (.int x2), .val (.int (2 : Int32)), .val (.int c0), .val (.int c1), .val (.int c2), .val (.ref x120), .val (.ref x), .unset] [])
    refine Run.via (fun _ => XS.aload X125.at X125.ex rfl (X125.de at_140) rfl rfl) ?_
    show Run _ _ _ _ _ _ _ _ _ _ _ _ T125 (mkF m 142 #[.val (.int len), .val (.int x0), .val (.int x1), .val (.int x2), .val (.int (2 : Int32)), .val (.int c0), .val (.int c1), .val (.int c2), .val (.ref x120), .val (.ref x), .unset] [(.ref x)])
    refine Run.via (fun _ => XT.ifnonnullYes X125.at X125.ex rfl (pc0 := 142) (pc' := 147) rfl (X125.de at_142) rfl (by decide) (by decide)) ?_
    show Run _ _ _ _ _ _ _ _ _ _ _ _ T125 (mkF m 147 #[.val (.int len), .val (.int x0), .val (.int x1), .val (.int x2), .val (.int (2 : Int32)), .val (.int c0), .val (.int c1), .val (.int c2), .val (.ref x120), .val (.ref x), .unset] [])
    refine Run.via (fun _ => XS.aload X125.at X125.ex rfl (X125.de at_147) rfl rfl) ?_
    show Run _ _ _ _ _ _ _ _ _ _ _ _ T125 (mkF m 149 #[.val (.int len), .val (.int x0), .val (.int x1), .val (.int x2), .val (.int (2 : Int32)), .val (.int c0), .val (.int c1), .val (.int c2), .val (.ref x120), .val (.ref x), .unset] [(.ref x)])
    refine Run.callW X125 (y := (⟨"com/example/veneer/veneer/VeneerException", "getMessage", "()Ljava/lang/String;"⟩ : MethodName)) (z := (⟨"java/lang/Throwable", "getMessage", "()Ljava/lang/String;"⟩ : MethodName)) (W := 0) (con_gm l hw FX X125.old) EX (wd hw 214 rfl) (wd hw 215 rfl) ⟨rfl, rfl⟩ (wd hw 217 rfl) (wd hw 218 rfl) (wd hw 175 rfl) (wd hw 219 rfl) (by decide) pd___Ljava_lang_String_ rfl (argsL := []) (rest := []) rfl (Nat.le_of_ble_eq_true rfl) rfl at_149 (by decide) (by decide) (Nat.le_of_ble_eq_true rfl) (Nat.le_of_ble_eq_true rfl) (nofun) (nofun) ?_
    intro v126 T126 h126 L126 q126 X126 XF126 K126
    obtain ⟨rfl, rfl⟩ := q126
    show Run _ _ _ _ _ _ _ _ _ _ _ _ T126 (mkF m 152 #[.val (.int len), .val (.int x0), .val (.int x1), .val (.int x2), .val (.int (2 : Int32)), .val (.int c0), .val (.int c1), .val (.int c2), .val (.ref x120), .val (.ref x), .unset] [(.ref ms)])
    refine Run.via (fun _ => XS.astore X126.at X126.ex rfl (X126.de at_152) rfl rfl (l' := #[.val (.int len), .val (.int x0), .val (.int x1), .val (.int x2), .val (.int (2 : Int32)), .val (.int c0), .val (.int c1), .val (.int c2), .val (.ref x120), .val (.ref x), .val (.ref ms)]) rfl) ?_
    show Run _ _ _ _ _ _ _ _ _ _ _ _ T126 (mkF m 154 #[.val (.int len), .val (.int x0), .val (.int x1), .val (.int x2), .val (.int (2 : Int32)), .val (.int c0), .val (.int c1), .val (.int c2), .val (.ref x120), .val (.ref x), .val (.ref ms)] [])
    refine Run.via (fun _ => XS.aload X126.at X126.ex rfl (X126.de at_154) rfl rfl) ?_
    show Run _ _ _ _ _ _ _ _ _ _ _ _ T126 (mkF m 156 #[.val (.int len), .val (.int x0), .val (.int x1), .val (.int x2), .val (.int (2 : Int32)), .val (.int c0), .val (.int c1), .val (.int c2), .val (.ref x120), .val (.ref x), .val (.ref ms)] [(.ref ms)])
    refine Run.via (fun _ => XS.ifnullNo X126.at X126.ex rfl (X126.de at_156) rfl) ?_
    show Run _ _ _ _ _ _ _ _ _ _ _ _ T126 (mkF m 159 #[.val (.int len), .val (.int x0), .val (.int x1), .val (.int x2), .val (.int (2 : Int32)), .val (.int c0), .val (.int c1), .val (.int c2), .val (.ref x120), .val (.ref x), .val (.ref ms)] [])
    refine Run.via (fun _ => XS.aload X126.at X126.ex rfl (X126.de at_159) rfl rfl) ?_
    show Run _ _ _ _ _ _ _ _ _ _ _ _ T126 (mkF m 161 #[.val (.int len), .val (.int x0), .val (.int x1), .val (.int x2), .val (.int (2 : Int32)), .val (.int c0), .val (.int c1), .val (.int c2), .val (.ref x120), .val (.ref x), .val (.ref ms)] [(.ref ms)])
    refine Run.slen hw hS X126 (W := 0) SM (wd hw 220 rfl) (wd hw 57 rfl) (wd hw 58 rfl) (wd hw 59 rfl) (wd hw 1 rfl) at_161 rfl (Nat.le_of_ble_eq_true rfl) (by decide) (by decide) (Nat.le_of_ble_eq_true rfl) (Nat.le_of_ble_eq_true rfl) ?_
    intro T127 X127
    show Run _ _ _ _ _ _ _ _ _ _ _ _ T127 (mkF m 164 #[.val (.int len), .val (.int x0), .val (.int x1), .val (.int x2), .val (.int (2 : Int32)), .val (.int c0), .val (.int c1), .val (.int c2), .val (.ref x120), .val (.ref x), .val (.ref ms)] [(.int (34 : Int32))])
    refine Run.via (fun _ => XS.iload X127.at X127.ex rfl (X127.de at_164) rfl) ?_
    show Run _ _ _ _ _ _ _ _ _ _ _ _ T127 (mkF m 166 #[.val (.int len), .val (.int x0), .val (.int x1), .val (.int x2), .val (.int (2 : Int32)), .val (.int c0), .val (.int c1), .val (.int c2), .val (.ref x120), .val (.ref x), .val (.ref ms)] [(.int (2 : Int32)), (.int (34 : Int32))])
    refine Run.via (fun _ => XS.bipush X127.at X127.ex rfl (X127.de at_166)) ?_
    show Run _ _ _ _ _ _ _ _ _ _ _ _ T127 (mkF m 168 #[.val (.int len), .val (.int x0), .val (.int x1), .val (.int x2), .val (.int (2 : Int32)), .val (.int c0), .val (.int c1), .val (.int c2), .val (.ref x120), .val (.ref x), .val (.ref ms)] [(.int (32 : Int32)), (.int (2 : Int32)), (.int (34 : Int32))])
    refine Run.via (fun _ => XS.iadd X127.at X127.ex rfl (X127.de at_168) rfl) ?_
    show Run _ _ _ _ _ _ _ _ _ _ _ _ T127 (mkF m 169 #[.val (.int len), .val (.int x0), .val (.int x1), .val (.int x2), .val (.int (2 : Int32)), .val (.int c0), .val (.int c1), .val (.int c2), .val (.ref x120), .val (.ref x), .val (.ref ms)] [(.int (34 : Int32)), (.int (34 : Int32))])
    refine Run.via (fun _ => XS.icmpYes X127.at X127.ex rfl (pc0 := 169) (pc' := 174) rfl (X127.de at_169) rfl (teq (by decide : ((34 : Int32) = (34 : Int32)))).1 (by decide) (by decide)) ?_
    show Run _ _ _ _ _ _ _ _ _ _ _ _ T127 (mkF m 174 #[.val (.int len), .val (.int x0), .val (.int x1), .val (.int x2), .val (.int (2 : Int32)), .val (.int c0), .val (.int c1), .val (.int c2), .val (.ref x120), .val (.ref x), .val (.ref ms)] [])
    refine Run.via (fun _ => XS.iload X127.at X127.ex rfl (X127.de at_174) rfl) ?_
    show Run _ _ _ _ _ _ _ _ _ _ _ _ T127 (mkF m 176 #[.val (.int len), .val (.int x0), .val (.int x1), .val (.int x2), .val (.int (2 : Int32)), .val (.int c0), .val (.int c1), .val (.int c2), .val (.ref x120), .val (.ref x), .val (.ref ms)] [(.int (2 : Int32))])
    refine Run.via (fun _ => XS.ifNo X127.at X127.ex rfl (X127.de at_176) rfl ((if0 _ _).trans (tlt (by decide : ((0 : Int32) < (2 : Int32)))).2.2.2)) ?_
    show Run _ _ _ _ _ _ _ _ _ _ _ _ T127 (mkF m 179 #[.val (.int len), .val (.int x0), .val (.int x1), .val (.int x2), .val (.int (2 : Int32)), .val (.int c0), .val (.int c1), .val (.int c2), .val (.ref x120), .val (.ref x), .val (.ref ms)] [])
    refine Run.via (fun _ => XS.aload X127.at X127.ex rfl (X127.de at_179) rfl rfl) ?_
    show Run _ _ _ _ _ _ _ _ _ _ _ _ T127 (mkF m 181 #[.val (.int len), .val (.int x0), .val (.int x1), .val (.int x2), .val (.int (2 : Int32)), .val (.int c0), .val (.int c1), .val (.int c2), .val (.ref x120), .val (.ref x), .val (.ref ms)] [(.ref ms)])
    refine Run.via (fun _ => XS.iconst X127.at X127.ex rfl (X127.de at_181)) ?_
    show Run _ _ _ _ _ _ _ _ _ _ _ _ T127 (mkF m 182 #[.val (.int len), .val (.int x0), .val (.int x1), .val (.int x2), .val (.int (2 : Int32)), .val (.int c0), .val (.int c1), .val (.int c2), .val (.ref x120), .val (.ref x), .val (.ref ms)] [(.int (0 : Int32)), (.ref ms)])
    refine Run.sch hw hS X127 (W := 0) SM (fun c q => ((List.mem_append.mp q).elim (hlN c) (latTX c)).2) rfl (Nat.le_of_ble_eq_true rfl) (wd hw 226 rfl) (wd hw 227 rfl) (wd hw 228 rfl) (wd hw 229 rfl) (wd hw 1 rfl) at_182 rfl (Nat.le_of_ble_eq_true rfl) (by decide) (by decide) (Nat.le_of_ble_eq_true rfl) (Nat.le_of_ble_eq_true rfl) ?_
    intro T128 X128
    show Run _ _ _ _ _ _ _ _ _ _ _ _ T128 (mkF m 185 #[.val (.int len), .val (.int x0), .val (.int x1), .val (.int x2), .val (.int (2 : Int32)), .val (.int c0), .val (.int c1), .val (.int c2), .val (.ref x120), .val (.ref x), .val (.ref ms)] [(.int c0)])
    refine Run.via (fun _ => XS.iload X128.at X128.ex rfl (X128.de at_185) rfl) ?_
    show Run _ _ _ _ _ _ _ _ _ _ _ _ T128 (mkF m 187 #[.val (.int len), .val (.int x0), .val (.int x1), .val (.int x2), .val (.int (2 : Int32)), .val (.int c0), .val (.int c1), .val (.int c2), .val (.ref x120), .val (.ref x), .val (.ref ms)] [(.int c0), (.int c0)])
    refine Run.via (fun _ => XS.icmpYes X128.at X128.ex rfl (pc0 := 187) (pc' := 192) rfl (X128.de at_187) rfl (teq (rfl : c0 = c0)).1 (by decide) (by decide)) ?_
    show Run _ _ _ _ _ _ _ _ _ _ _ _ T128 (mkF m 192 #[.val (.int len), .val (.int x0), .val (.int x1), .val (.int x2), .val (.int (2 : Int32)), .val (.int c0), .val (.int c1), .val (.int c2), .val (.ref x120), .val (.ref x), .val (.ref ms)] [])
    refine Run.via (fun _ => XS.iload X128.at X128.ex rfl (X128.de at_192) rfl) ?_
    show Run _ _ _ _ _ _ _ _ _ _ _ _ T128 (mkF m 194 #[.val (.int len), .val (.int x0), .val (.int x1), .val (.int x2), .val (.int (2 : Int32)), .val (.int c0), .val (.int c1), .val (.int c2), .val (.ref x120), .val (.ref x), .val (.ref ms)] [(.int (2 : Int32))])
    refine Run.via (fun _ => XS.iconst X128.at X128.ex rfl (X128.de at_194)) ?_
    show Run _ _ _ _ _ _ _ _ _ _ _ _ T128 (mkF m 195 #[.val (.int len), .val (.int x0), .val (.int x1), .val (.int x2), .val (.int (2 : Int32)), .val (.int c0), .val (.int c1), .val (.int c2), .val (.ref x120), .val (.ref x), .val (.ref ms)] [(.int (1 : Int32)), (.int (2 : Int32))])
    refine Run.via (fun _ => XS.icmpNo X128.at X128.ex rfl (X128.de at_195) rfl (tlt (by decide : ((1 : Int32) < (2 : Int32)))).2.2.2) ?_
    show Run _ _ _ _ _ _ _ _ _ _ _ _ T128 (mkF m 198 #[.val (.int len), .val (.int x0), .val (.int x1), .val (.int x2), .val (.int (2 : Int32)), .val (.int c0), .val (.int c1), .val (.int c2), .val (.ref x120), .val (.ref x), .val (.ref ms)] [])
    refine Run.via (fun _ => XS.aload X128.at X128.ex rfl (X128.de at_198) rfl rfl) ?_
    show Run _ _ _ _ _ _ _ _ _ _ _ _ T128 (mkF m 200 #[.val (.int len), .val (.int x0), .val (.int x1), .val (.int x2), .val (.int (2 : Int32)), .val (.int c0), .val (.int c1), .val (.int c2), .val (.ref x120), .val (.ref x), .val (.ref ms)] [(.ref ms)])
    refine Run.via (fun _ => XS.iconst X128.at X128.ex rfl (X128.de at_200)) ?_
    show Run _ _ _ _ _ _ _ _ _ _ _ _ T128 (mkF m 201 #[.val (.int len), .val (.int x0), .val (.int x1), .val (.int x2), .val (.int (2 : Int32)), .val (.int c0), .val (.int c1), .val (.int c2), .val (.ref x120), .val (.ref x), .val (.ref ms)] [(.int (1 : Int32)), (.ref ms)])
    refine Run.sch hw hS X128 (W := 0) SM (fun c q => ((List.mem_append.mp q).elim (hlN c) (latTX c)).2) rfl (Nat.le_of_ble_eq_true rfl) (wd hw 226 rfl) (wd hw 227 rfl) (wd hw 228 rfl) (wd hw 229 rfl) (wd hw 1 rfl) at_201 rfl (Nat.le_of_ble_eq_true rfl) (by decide) (by decide) (Nat.le_of_ble_eq_true rfl) (Nat.le_of_ble_eq_true rfl) ?_
    intro T129 X129
    show Run _ _ _ _ _ _ _ _ _ _ _ _ T129 (mkF m 204 #[.val (.int len), .val (.int x0), .val (.int x1), .val (.int x2), .val (.int (2 : Int32)), .val (.int c0), .val (.int c1), .val (.int c2), .val (.ref x120), .val (.ref x), .val (.ref ms)] [(.int c1)])
    refine Run.via (fun _ => XS.iload X129.at X129.ex rfl (X129.de at_204) rfl) ?_
    show Run _ _ _ _ _ _ _ _ _ _ _ _ T129 (mkF m 206 #[.val (.int len), .val (.int x0), .val (.int x1), .val (.int x2), .val (.int (2 : Int32)), .val (.int c0), .val (.int c1), .val (.int c2), .val (.ref x120), .val (.ref x), .val (.ref ms)] [(.int c1), (.int c1)])
    refine Run.via (fun _ => XS.icmpYes X129.at X129.ex rfl (pc0 := 206) (pc' := 211) rfl (X129.de at_206) rfl (teq (rfl : c1 = c1)).1 (by decide) (by decide)) ?_
    show Run _ _ _ _ _ _ _ _ _ _ _ _ T129 (mkF m 211 #[.val (.int len), .val (.int x0), .val (.int x1), .val (.int x2), .val (.int (2 : Int32)), .val (.int c0), .val (.int c1), .val (.int c2), .val (.ref x120), .val (.ref x), .val (.ref ms)] [])
    refine Run.via (fun _ => XS.iload X129.at X129.ex rfl (X129.de at_211) rfl) ?_
    show Run _ _ _ _ _ _ _ _ _ _ _ _ T129 (mkF m 213 #[.val (.int len), .val (.int x0), .val (.int x1), .val (.int x2), .val (.int (2 : Int32)), .val (.int c0), .val (.int c1), .val (.int c2), .val (.ref x120), .val (.ref x), .val (.ref ms)] [(.int (2 : Int32))])
    refine Run.via (fun _ => XS.iconst X129.at X129.ex rfl (X129.de at_213)) ?_
    show Run _ _ _ _ _ _ _ _ _ _ _ _ T129 (mkF m 214 #[.val (.int len), .val (.int x0), .val (.int x1), .val (.int x2), .val (.int (2 : Int32)), .val (.int c0), .val (.int c1), .val (.int c2), .val (.ref x120), .val (.ref x), .val (.ref ms)] [(.int (2 : Int32)), (.int (2 : Int32))])
    refine Run.via (fun _ => XS.icmpYes X129.at X129.ex rfl (pc0 := 214) (pc' := 230) rfl (X129.de at_214) rfl (flt (by decide : ¬ ((2 : Int32) < (2 : Int32)))).2.2.2 (by decide) (by decide)) ?_
    show Run _ _ _ _ _ _ _ _ _ _ _ _ T129 (mkF m 230 #[.val (.int len), .val (.int x0), .val (.int x1), .val (.int x2), .val (.int (2 : Int32)), .val (.int c0), .val (.int c1), .val (.int c2), .val (.ref x120), .val (.ref x), .val (.ref ms)] [])
    refine Run.via (fun _ => XS.aload X129.at X129.ex rfl (X129.de at_230) rfl rfl) ?_
    show Run _ _ _ _ _ _ _ _ _ _ _ _ T129 (mkF m 232 #[.val (.int len), .val (.int x0), .val (.int x1), .val (.int x2), .val (.int (2 : Int32)), .val (.int c0), .val (.int c1), .val (.int c2), .val (.ref x120), .val (.ref x), .val (.ref ms)] [(.ref ms)])
    refine Run.via (fun _ => XS.iload X129.at X129.ex rfl (X129.de at_232) rfl) ?_
    show Run _ _ _ _ _ _ _ _ _ _ _ _ T129 (mkF m 234 #[.val (.int len), .val (.int x0), .val (.int x1), .val (.int x2), .val (.int (2 : Int32)), .val (.int c0), .val (.int c1), .val (.int c2), .val (.ref x120), .val (.ref x), .val (.ref ms)] [(.int (2 : Int32)), (.ref ms)])
    refine Run.callS X129 (y := (⟨"com/example/veneer/veneer/VeneerExceptionUnboundPinLaw", "tail", "(Ljava/lang/String;I)Z"⟩ : MethodName)) (W := 0) (con_ta l hw hS hN hmP hlN (Nat.le_of_ble_eq_true rfl) SM X129.old) (wd hw 221 rfl) (wd hw 222 rfl) (wd hw 223 rfl) (wd hw 224 rfl) (by decide) pd__Ljava_lang_String_I_Z rfl (argsL := [(.ref ms), (.int (2 : Int32))]) (rest := []) rfl (Nat.le_of_ble_eq_true rfl) rfl at_234 (by decide) (by decide) (Nat.le_of_ble_eq_true rfl) (Nat.le_of_ble_eq_true rfl) (nofun) (nofun) ?_
    intro v130 T130 h130 L130 q130 X130 XF130 K130
    obtain rfl := q130
    show Run _ _ _ _ _ _ _ _ _ _ _ _ T130 (mkF m 237 #[.val (.int len), .val (.int x0), .val (.int x1), .val (.int x2), .val (.int (2 : Int32)), .val (.int c0), .val (.int c1), .val (.int c2), .val (.ref x120), .val (.ref x), .val (.ref ms)] [(.int (1 : Int32))])
    exact Run.retN X130 (t := .boolean) rfl (by simp) at_237 (Nat.le_of_ble_eq_true rfl) (Nat.le_of_ble_eq_true rfl) (rfl)
  ·
    show Run _ _ _ _ _ _ _ _ _ _ _ _ T0 (mkF m 31 #[.val (.int len), .val (.int x0), .val (.int x1), .val (.int x2), .val (.int (3 : Int32)), .val (.int c0), .val (.int c1), .val (.int c2), .unset, .unset, .unset] [(.int (3 : Int32))])
    refine Run.via (fun _ => XS.ifYes X0.at X0.ex rfl (pc0 := 31) (pc' := 49) rfl (X0.de at_31) rfl ((if0 _ _).trans (feq (by decide : ¬ ((3 : Int32) = (0 : Int32)))).2) (by decide) (by decide)) ?_
    show Run _ _ _ _ _ _ _ _ _ _ _ _ T0 (mkF m 49 #[.val (.int len), .val (.int x0), .val (.int x1), .val (.int x2), .val (.int (3 : Int32)), .val (.int c0), .val (.int c1), .val (.int c2), .unset, .unset, .unset] [])
    refine Run.via (fun _ => XS.iload X0.at X0.ex rfl (X0.de at_49) rfl) ?_
    show Run _ _ _ _ _ _ _ _ _ _ _ _ T0 (mkF m 51 #[.val (.int len), .val (.int x0), .val (.int x1), .val (.int x2), .val (.int (3 : Int32)), .val (.int c0), .val (.int c1), .val (.int c2), .unset, .unset, .unset] [(.int (3 : Int32))])
    refine Run.via (fun _ => XS.iconst X0.at X0.ex rfl (X0.de at_51)) ?_
    show Run _ _ _ _ _ _ _ _ _ _ _ _ T0 (mkF m 52 #[.val (.int len), .val (.int x0), .val (.int x1), .val (.int x2), .val (.int (3 : Int32)), .val (.int c0), .val (.int c1), .val (.int c2), .unset, .unset, .unset] [(.int (1 : Int32)), (.int (3 : Int32))])
    refine Run.via (fun _ => XS.icmpYes X0.at X0.ex rfl (pc0 := 52) (pc' := 75) rfl (X0.de at_52) rfl (feq (by decide : ¬ ((3 : Int32) = (1 : Int32)))).2 (by decide) (by decide)) ?_
    show Run _ _ _ _ _ _ _ _ _ _ _ _ T0 (mkF m 75 #[.val (.int len), .val (.int x0), .val (.int x1), .val (.int x2), .val (.int (3 : Int32)), .val (.int c0), .val (.int c1), .val (.int c2), .unset, .unset, .unset] [])
    refine Run.via (fun _ => XS.iload X0.at X0.ex rfl (X0.de at_75) rfl) ?_
    show Run _ _ _ _ _ _ _ _ _ _ _ _ T0 (mkF m 77 #[.val (.int len), .val (.int x0), .val (.int x1), .val (.int x2), .val (.int (3 : Int32)), .val (.int c0), .val (.int c1), .val (.int c2), .unset, .unset, .unset] [(.int (3 : Int32))])
    refine Run.via (fun _ => XS.iconst X0.at X0.ex rfl (X0.de at_77)) ?_
    show Run _ _ _ _ _ _ _ _ _ _ _ _ T0 (mkF m 78 #[.val (.int len), .val (.int x0), .val (.int x1), .val (.int x2), .val (.int (3 : Int32)), .val (.int c0), .val (.int c1), .val (.int c2), .unset, .unset, .unset] [(.int (2 : Int32)), (.int (3 : Int32))])
    refine Run.via (fun _ => XS.icmpYes X0.at X0.ex rfl (pc0 := 78) (pc' := 106) rfl (X0.de at_78) rfl (feq (by decide : ¬ ((3 : Int32) = (2 : Int32)))).2 (by decide) (by decide)) ?_
    show Run _ _ _ _ _ _ _ _ _ _ _ _ T0 (mkF m 106 #[.val (.int len), .val (.int x0), .val (.int x1), .val (.int x2), .val (.int (3 : Int32)), .val (.int c0), .val (.int c1), .val (.int c2), .unset, .unset, .unset] [])
    have u131 := X0.kp.1
    have ho131 := O.1
    refine Run.new X0 (wd hw 0 rfl) (wd hw 1 rfl) (wd hw 2 rfl) at_106 (Nat.le_of_ble_eq_true rfl) (Nat.le_of_ble_eq_true rfl) ?_
    intro T132 h132 x132 g132 X132 K132 z132 E132 D132
    show Run _ _ _ _ _ _ _ _ _ _ _ _ T132 (mkF m 109 #[.val (.int len), .val (.int x0), .val (.int x1), .val (.int x2), .val (.int (3 : Int32)), .val (.int c0), .val (.int c1), .val (.int c2), .unset, .unset, .unset] [(.ref x132)])
    have G132 : Raw Z h132 x132 := ⟨E132, D132 (Or.inr (wd hw 16 rfl)) (ty := (.array .byte)) (by decide), D132 (Or.inr (wd hw 17 rfl)) (ty := .byte) (by decide)⟩
    have s132 := K132.1
    refine Run.via (fun _ => XS.dup X132.at X132.ex rfl (X132.de at_109) rfl rfl) ?_
    show Run _ _ _ _ _ _ _ _ _ _ _ _ T132 (mkF m 110 #[.val (.int len), .val (.int x0), .val (.int x1), .val (.int x2), .val (.int (3 : Int32)), .val (.int c0), .val (.int c1), .val (.int c2), .unset, .unset, .unset] [(.ref x132), (.ref x132)])
    refine Run.via (fun _ => XS.iconst X132.at X132.ex rfl (X132.de at_110)) ?_
    show Run _ _ _ _ _ _ _ _ _ _ _ _ T132 (mkF m 111 #[.val (.int len), .val (.int x0), .val (.int x1), .val (.int x2), .val (.int (3 : Int32)), .val (.int c0), .val (.int c1), .val (.int c2), .unset, .unset, .unset] [(.int (3 : Int32)), (.ref x132), (.ref x132)])
    refine Run.newarr X132 (aty := .char) (n := 3) (cap := 3) (wd hw 3 rfl) rfl at_111 rfl (Nat.le_refl _) (by decide) (Nat.le_of_ble_eq_true rfl) (Nat.le_of_ble_eq_true rfl) ?_
    intro T133 h133 x133 g133 X133 K133 z133 A133
    have A133 : Arc .char Z h133 x133 [(0 : Int32), (0 : Int32), (0 : Int32)] := A133
    show Run _ _ _ _ _ _ _ _ _ _ _ _ T133 (mkF m 113 #[.val (.int len), .val (.int x0), .val (.int x1), .val (.int x2), .val (.int (3 : Int32)), .val (.int c0), .val (.int c1), .val (.int c2), .unset, .unset, .unset] [(.ref x133), (.ref x132), (.ref x132)])
    have s133 := K133.1
    have G133 := G132.keep K133 nin0
    refine Run.via (fun _ => XS.dup X133.at X133.ex rfl (X133.de at_113) rfl rfl) ?_
    show Run _ _ _ _ _ _ _ _ _ _ _ _ T133 (mkF m 114 #[.val (.int len), .val (.int x0), .val (.int x1), .val (.int x2), .val (.int (3 : Int32)), .val (.int c0), .val (.int c1), .val (.int c2), .unset, .unset, .unset] [(.ref x133), (.ref x133), (.ref x132), (.ref x132)])
    refine Run.via (fun _ => XS.iconst X133.at X133.ex rfl (X133.de at_114)) ?_
    show Run _ _ _ _ _ _ _ _ _ _ _ _ T133 (mkF m 115 #[.val (.int len), .val (.int x0), .val (.int x1), .val (.int x2), .val (.int (3 : Int32)), .val (.int c0), .val (.int c1), .val (.int c2), .unset, .unset, .unset] [(.int (0 : Int32)), (.ref x133), (.ref x133), (.ref x132), (.ref x132)])
    refine Run.via (fun _ => XS.iload X133.at X133.ex rfl (X133.de at_115) rfl) ?_
    show Run _ _ _ _ _ _ _ _ _ _ _ _ T133 (mkF m 117 #[.val (.int len), .val (.int x0), .val (.int x1), .val (.int x2), .val (.int (3 : Int32)), .val (.int c0), .val (.int c1), .val (.int c2), .unset, .unset, .unset] [(.int c0), (.int (0 : Int32)), (.ref x133), (.ref x133), (.ref x132), (.ref x132)])
    refine Run.castore X133 (i := 0) (v' := c0) A133 rfl (Nat.le_of_ble_eq_true rfl) (nar_lat r0) (Or.inr (by omega)) (by omega) at_117 ?_
    intro T134 h134 L134 X134 K134 z134 A134
    have A134 : Arc .char Z h134 x133 [c0, (0 : Int32), (0 : Int32)] := A134
    show Run _ _ _ _ _ _ _ _ _ _ _ _ T134 (mkF m 118 #[.val (.int len), .val (.int x0), .val (.int x1), .val (.int x2), .val (.int (3 : Int32)), .val (.int c0), .val (.int c1), .val (.int c2), .unset, .unset, .unset] [(.ref x133), (.ref x132), (.ref x132)])
    have G134 := G133.keep K134 (ninS (neA (by omega)) nin0)
    refine Run.via (fun _ => XS.dup X134.at X134.ex rfl (X134.de at_118) rfl rfl) ?_
    show Run _ _ _ _ _ _ _ _ _ _ _ _ T134 (mkF m 119 #[.val (.int len), .val (.int x0), .val (.int x1), .val (.int x2), .val (.int (3 : Int32)), .val (.int c0), .val (.int c1), .val (.int c2), .unset, .unset, .unset] [(.ref x133), (.ref x133), (.ref x132), (.ref x132)])
    refine Run.via (fun _ => XS.iconst X134.at X134.ex rfl (X134.de at_119)) ?_
    show Run _ _ _ _ _ _ _ _ _ _ _ _ T134 (mkF m 120 #[.val (.int len), .val (.int x0), .val (.int x1), .val (.int x2), .val (.int (3 : Int32)), .val (.int c0), .val (.int c1), .val (.int c2), .unset, .unset, .unset] [(.int (1 : Int32)), (.ref x133), (.ref x133), (.ref x132), (.ref x132)])
    refine Run.via (fun _ => XS.iload X134.at X134.ex rfl (X134.de at_120) rfl) ?_
    show Run _ _ _ _ _ _ _ _ _ _ _ _ T134 (mkF m 122 #[.val (.int len), .val (.int x0), .val (.int x1), .val (.int x2), .val (.int (3 : Int32)), .val (.int c0), .val (.int c1), .val (.int c2), .unset, .unset, .unset] [(.int c1), (.int (1 : Int32)), (.ref x133), (.ref x133), (.ref x132), (.ref x132)])
    refine Run.castore X134 (i := 1) (v' := c1) A134 rfl (Nat.le_of_ble_eq_true rfl) (nar_lat r1) (Or.inr (by omega)) (by omega) at_122 ?_
    intro T135 h135 L135 X135 K135 z135 A135
    have A135 : Arc .char Z h135 x133 [c0, c1, (0 : Int32)] := A135
    show Run _ _ _ _ _ _ _ _ _ _ _ _ T135 (mkF m 123 #[.val (.int len), .val (.int x0), .val (.int x1), .val (.int x2), .val (.int (3 : Int32)), .val (.int c0), .val (.int c1), .val (.int c2), .unset, .unset, .unset] [(.ref x133), (.ref x132), (.ref x132)])
    have G135 := G134.keep K135 (ninS (neA (by omega)) nin0)
    refine Run.via (fun _ => XS.dup X135.at X135.ex rfl (X135.de at_123) rfl rfl) ?_
    show Run _ _ _ _ _ _ _ _ _ _ _ _ T135 (mkF m 124 #[.val (.int len), .val (.int x0), .val (.int x1), .val (.int x2), .val (.int (3 : Int32)), .val (.int c0), .val (.int c1), .val (.int c2), .unset, .unset, .unset] [(.ref x133), (.ref x133), (.ref x132), (.ref x132)])
    refine Run.via (fun _ => XS.iconst X135.at X135.ex rfl (X135.de at_124)) ?_
    show Run _ _ _ _ _ _ _ _ _ _ _ _ T135 (mkF m 125 #[.val (.int len), .val (.int x0), .val (.int x1), .val (.int x2), .val (.int (3 : Int32)), .val (.int c0), .val (.int c1), .val (.int c2), .unset, .unset, .unset] [(.int (2 : Int32)), (.ref x133), (.ref x133), (.ref x132), (.ref x132)])
    refine Run.via (fun _ => XS.iload X135.at X135.ex rfl (X135.de at_125) rfl) ?_
    show Run _ _ _ _ _ _ _ _ _ _ _ _ T135 (mkF m 127 #[.val (.int len), .val (.int x0), .val (.int x1), .val (.int x2), .val (.int (3 : Int32)), .val (.int c0), .val (.int c1), .val (.int c2), .unset, .unset, .unset] [(.int c2), (.int (2 : Int32)), (.ref x133), (.ref x133), (.ref x132), (.ref x132)])
    refine Run.castore X135 (i := 2) (v' := c2) A135 rfl (Nat.le_of_ble_eq_true rfl) (nar_lat r2) (Or.inr (by omega)) (by omega) at_127 ?_
    intro T136 h136 L136 X136 K136 z136 A136
    have A136 : Arc .char Z h136 x133 [c0, c1, c2] := A136
    show Run _ _ _ _ _ _ _ _ _ _ _ _ T136 (mkF m 128 #[.val (.int len), .val (.int x0), .val (.int x1), .val (.int x2), .val (.int (3 : Int32)), .val (.int c0), .val (.int c1), .val (.int c2), .unset, .unset, .unset] [(.ref x133), (.ref x132), (.ref x132)])
    have G136 := G135.keep K136 (ninS (neA (by omega)) nin0)
    have hcs137 : ∀ c ∈ ([c0, c1, c2] : List Int32), ¬ c < 0 ∧ ¬ (255 : Int32) < c := lsS r0 (lsS r1 (lsS r2 (ls0)))
    refine Run.initStr hw hS X136 (cs := [c0, c1, c2]) (W := 1) G136 A136 hcs137 (Nat.le_of_ble_eq_true rfl) (wd hw 4 rfl) (wd hw 5 rfl) (wd hw 1 rfl) at_128 rfl (Or.inr (by omega)) (by omega) (by simp) (Nat.le_of_ble_eq_true rfl) (by decide) (by decide) (Nat.le_of_ble_eq_true rfl) (Nat.le_of_ble_eq_true rfl) ?_
    intro T137 h137 L137 X137 K137 S137
    show Run _ _ _ _ _ _ _ _ _ _ _ _ T137 (mkF m 131 #[.val (.int len), .val (.int x0), .val (.int x1), .val (.int x2), .val (.int (3 : Int32)), .val (.int c0), .val (.int c1), .val (.int c2), .unset, .unset, .unset] [(.ref x132)])
    refine Run.via (fun _ => XS.astore X137.at X137.ex rfl (X137.de at_131) rfl rfl (l' := #[.val (.int len), .val (.int x0), .val (.int x1), .val (.int x2), .val (.int (3 : Int32)), .val (.int c0), .val (.int c1), .val (.int c2), .val (.ref x132), .unset, .unset]) rfl) ?_
    show Run _ _ _ _ _ _ _ _ _ _ _ _ T137 (mkF m 133 #[.val (.int len), .val (.int x0), .val (.int x1), .val (.int x2), .val (.int (3 : Int32)), .val (.int c0), .val (.int c1), .val (.int c2), .val (.ref x132), .unset, .unset] [])
    have hlN : Lat ([c0, c1, c2] : List Int32) := lsS r0 (lsS r1 (lsS r2 (ls0)))
    refine Run.via (fun _ => XS.aload X137.at X137.ex rfl (X137.de at_133) rfl rfl) ?_
    show Run _ _ _ _ _ _ _ _ _ _ _ _ T137 (mkF m 135 #[.val (.int len), .val (.int x0), .val (.int x1), .val (.int x2), .val (.int (3 : Int32)), .val (.int c0), .val (.int c1), .val (.int c2), .val (.ref x132), .unset, .unset] [(.ref x132)])
    refine Run.callS X137 (y := (⟨"com/example/veneer/veneer/VeneerException", "unbound", "(Ljava/lang/String;)Lcom/example/veneer/veneer/VeneerException;"⟩ : MethodName)) (W := 0) (con_ub l hw hS hN hmV hst SU SS (nl := ([c0, c1, c2] : List Int32)) hlN (Nat.le_of_ble_eq_true rfl) S137 X137.old) (wd hw 22 rfl) (wd hw 23 rfl) (wd hw 24 rfl) (wd hw 25 rfl) (by decide) pd__Ljava_lang_String__Lcom_example_veneer_veneer_VeneerException_ rfl (argsL := [(.ref x132)]) (rest := []) rfl (Nat.le_of_ble_eq_true rfl) rfl at_135 (by decide) (by decide) (Nat.le_of_ble_eq_true rfl) (Nat.le_of_ble_eq_true rfl) (nofun) (nofun) ?_
    intro v138 T138 h138 L138 q138 X138 XF138 K138
    obtain ⟨x, ms, rfl, EX, FX, SM⟩ := q138
    show Run _ _ _ _ _ _ _ _ _ _ _ _ T138 (mkF m 138 #[.val (.int len), .val (.int x0), .val (.int x1), .val (.int x2), .val (.int (3 : Int32)), .val (.int c0), .val (.int c1), .val (.int c2), .val (.ref x132), .unset, .unset] [(.ref x)])
    refine Run.via (fun _ => XS.astore X138.at X138.ex rfl (X138.de at_138) rfl rfl (l' := #[.val (.int len), .val (.int x0), .val (.int x1), .val (.int x2), .val (.int (3 : Int32)), .val (.int c0), .val (.int c1), .val (.int c2), .val (.ref x132), .val (.ref x), .unset]) rfl) ?_
    show Run _ _ _ _ _ _ _ _ _ _ _ _ T138 (mkF m 140 #[.val (.int len), .val (.int x0), .val (.int x1), .val (.int x2), .val (.int (3 : Int32)), .val (.int c0), .val (.int c1), .val (.int c2), .val (.ref x132), .val (.ref x), .unset] [])
    refine Run.via (fun _ => XS.aload X138.at X138.ex rfl (X138.de at_140) rfl rfl) ?_
    show Run _ _ _ _ _ _ _ _ _ _ _ _ T138 (mkF m 142 #[.val (.int len), .val (.int x0), .val (.int x1), .val (.int x2), .val (.int (3 : Int32)), .val (.int c0), .val (.int c1), .val (.int c2), .val (.ref x132), .val (.ref x), .unset] [(.ref x)])
    refine Run.via (fun _ => XT.ifnonnullYes X138.at X138.ex rfl (pc0 := 142) (pc' := 147) rfl (X138.de at_142) rfl (by decide) (by decide)) ?_
    show Run _ _ _ _ _ _ _ _ _ _ _ _ T138 (mkF m 147 #[.val (.int len), .val (.int x0), .val (.int x1), .val (.int x2), .val (.int (3 : Int32)), .val (.int c0), .val (.int c1), .val (.int c2), .val (.ref x132), .val (.ref x), .unset] [])
    refine Run.via (fun _ => XS.aload X138.at X138.ex rfl (X138.de at_147) rfl rfl) ?_
    show Run _ _ _ _ _ _ _ _ _ _ _ _ T138 (mkF m 149 #[.val (.int len), .val (.int x0), .val (.int x1), .val (.int x2), .val (.int (3 : Int32)), .val (.int c0), .val (.int c1), .val (.int c2), .val (.ref x132), .val (.ref x), .unset] [(.ref x)])
    refine Run.callW X138 (y := (⟨"com/example/veneer/veneer/VeneerException", "getMessage", "()Ljava/lang/String;"⟩ : MethodName)) (z := (⟨"java/lang/Throwable", "getMessage", "()Ljava/lang/String;"⟩ : MethodName)) (W := 0) (con_gm l hw FX X138.old) EX (wd hw 214 rfl) (wd hw 215 rfl) ⟨rfl, rfl⟩ (wd hw 217 rfl) (wd hw 218 rfl) (wd hw 175 rfl) (wd hw 219 rfl) (by decide) pd___Ljava_lang_String_ rfl (argsL := []) (rest := []) rfl (Nat.le_of_ble_eq_true rfl) rfl at_149 (by decide) (by decide) (Nat.le_of_ble_eq_true rfl) (Nat.le_of_ble_eq_true rfl) (nofun) (nofun) ?_
    intro v139 T139 h139 L139 q139 X139 XF139 K139
    obtain ⟨rfl, rfl⟩ := q139
    show Run _ _ _ _ _ _ _ _ _ _ _ _ T139 (mkF m 152 #[.val (.int len), .val (.int x0), .val (.int x1), .val (.int x2), .val (.int (3 : Int32)), .val (.int c0), .val (.int c1), .val (.int c2), .val (.ref x132), .val (.ref x), .unset] [(.ref ms)])
    refine Run.via (fun _ => XS.astore X139.at X139.ex rfl (X139.de at_152) rfl rfl (l' := #[.val (.int len), .val (.int x0), .val (.int x1), .val (.int x2), .val (.int (3 : Int32)), .val (.int c0), .val (.int c1), .val (.int c2), .val (.ref x132), .val (.ref x), .val (.ref ms)]) rfl) ?_
    show Run _ _ _ _ _ _ _ _ _ _ _ _ T139 (mkF m 154 #[.val (.int len), .val (.int x0), .val (.int x1), .val (.int x2), .val (.int (3 : Int32)), .val (.int c0), .val (.int c1), .val (.int c2), .val (.ref x132), .val (.ref x), .val (.ref ms)] [])
    refine Run.via (fun _ => XS.aload X139.at X139.ex rfl (X139.de at_154) rfl rfl) ?_
    show Run _ _ _ _ _ _ _ _ _ _ _ _ T139 (mkF m 156 #[.val (.int len), .val (.int x0), .val (.int x1), .val (.int x2), .val (.int (3 : Int32)), .val (.int c0), .val (.int c1), .val (.int c2), .val (.ref x132), .val (.ref x), .val (.ref ms)] [(.ref ms)])
    refine Run.via (fun _ => XS.ifnullNo X139.at X139.ex rfl (X139.de at_156) rfl) ?_
    show Run _ _ _ _ _ _ _ _ _ _ _ _ T139 (mkF m 159 #[.val (.int len), .val (.int x0), .val (.int x1), .val (.int x2), .val (.int (3 : Int32)), .val (.int c0), .val (.int c1), .val (.int c2), .val (.ref x132), .val (.ref x), .val (.ref ms)] [])
    refine Run.via (fun _ => XS.aload X139.at X139.ex rfl (X139.de at_159) rfl rfl) ?_
    show Run _ _ _ _ _ _ _ _ _ _ _ _ T139 (mkF m 161 #[.val (.int len), .val (.int x0), .val (.int x1), .val (.int x2), .val (.int (3 : Int32)), .val (.int c0), .val (.int c1), .val (.int c2), .val (.ref x132), .val (.ref x), .val (.ref ms)] [(.ref ms)])
    refine Run.slen hw hS X139 (W := 0) SM (wd hw 220 rfl) (wd hw 57 rfl) (wd hw 58 rfl) (wd hw 59 rfl) (wd hw 1 rfl) at_161 rfl (Nat.le_of_ble_eq_true rfl) (by decide) (by decide) (Nat.le_of_ble_eq_true rfl) (Nat.le_of_ble_eq_true rfl) ?_
    intro T140 X140
    show Run _ _ _ _ _ _ _ _ _ _ _ _ T140 (mkF m 164 #[.val (.int len), .val (.int x0), .val (.int x1), .val (.int x2), .val (.int (3 : Int32)), .val (.int c0), .val (.int c1), .val (.int c2), .val (.ref x132), .val (.ref x), .val (.ref ms)] [(.int (35 : Int32))])
    refine Run.via (fun _ => XS.iload X140.at X140.ex rfl (X140.de at_164) rfl) ?_
    show Run _ _ _ _ _ _ _ _ _ _ _ _ T140 (mkF m 166 #[.val (.int len), .val (.int x0), .val (.int x1), .val (.int x2), .val (.int (3 : Int32)), .val (.int c0), .val (.int c1), .val (.int c2), .val (.ref x132), .val (.ref x), .val (.ref ms)] [(.int (3 : Int32)), (.int (35 : Int32))])
    refine Run.via (fun _ => XS.bipush X140.at X140.ex rfl (X140.de at_166)) ?_
    show Run _ _ _ _ _ _ _ _ _ _ _ _ T140 (mkF m 168 #[.val (.int len), .val (.int x0), .val (.int x1), .val (.int x2), .val (.int (3 : Int32)), .val (.int c0), .val (.int c1), .val (.int c2), .val (.ref x132), .val (.ref x), .val (.ref ms)] [(.int (32 : Int32)), (.int (3 : Int32)), (.int (35 : Int32))])
    refine Run.via (fun _ => XS.iadd X140.at X140.ex rfl (X140.de at_168) rfl) ?_
    show Run _ _ _ _ _ _ _ _ _ _ _ _ T140 (mkF m 169 #[.val (.int len), .val (.int x0), .val (.int x1), .val (.int x2), .val (.int (3 : Int32)), .val (.int c0), .val (.int c1), .val (.int c2), .val (.ref x132), .val (.ref x), .val (.ref ms)] [(.int (35 : Int32)), (.int (35 : Int32))])
    refine Run.via (fun _ => XS.icmpYes X140.at X140.ex rfl (pc0 := 169) (pc' := 174) rfl (X140.de at_169) rfl (teq (by decide : ((35 : Int32) = (35 : Int32)))).1 (by decide) (by decide)) ?_
    show Run _ _ _ _ _ _ _ _ _ _ _ _ T140 (mkF m 174 #[.val (.int len), .val (.int x0), .val (.int x1), .val (.int x2), .val (.int (3 : Int32)), .val (.int c0), .val (.int c1), .val (.int c2), .val (.ref x132), .val (.ref x), .val (.ref ms)] [])
    refine Run.via (fun _ => XS.iload X140.at X140.ex rfl (X140.de at_174) rfl) ?_
    show Run _ _ _ _ _ _ _ _ _ _ _ _ T140 (mkF m 176 #[.val (.int len), .val (.int x0), .val (.int x1), .val (.int x2), .val (.int (3 : Int32)), .val (.int c0), .val (.int c1), .val (.int c2), .val (.ref x132), .val (.ref x), .val (.ref ms)] [(.int (3 : Int32))])
    refine Run.via (fun _ => XS.ifNo X140.at X140.ex rfl (X140.de at_176) rfl ((if0 _ _).trans (tlt (by decide : ((0 : Int32) < (3 : Int32)))).2.2.2)) ?_
    show Run _ _ _ _ _ _ _ _ _ _ _ _ T140 (mkF m 179 #[.val (.int len), .val (.int x0), .val (.int x1), .val (.int x2), .val (.int (3 : Int32)), .val (.int c0), .val (.int c1), .val (.int c2), .val (.ref x132), .val (.ref x), .val (.ref ms)] [])
    refine Run.via (fun _ => XS.aload X140.at X140.ex rfl (X140.de at_179) rfl rfl) ?_
    show Run _ _ _ _ _ _ _ _ _ _ _ _ T140 (mkF m 181 #[.val (.int len), .val (.int x0), .val (.int x1), .val (.int x2), .val (.int (3 : Int32)), .val (.int c0), .val (.int c1), .val (.int c2), .val (.ref x132), .val (.ref x), .val (.ref ms)] [(.ref ms)])
    refine Run.via (fun _ => XS.iconst X140.at X140.ex rfl (X140.de at_181)) ?_
    show Run _ _ _ _ _ _ _ _ _ _ _ _ T140 (mkF m 182 #[.val (.int len), .val (.int x0), .val (.int x1), .val (.int x2), .val (.int (3 : Int32)), .val (.int c0), .val (.int c1), .val (.int c2), .val (.ref x132), .val (.ref x), .val (.ref ms)] [(.int (0 : Int32)), (.ref ms)])
    refine Run.sch hw hS X140 (W := 0) SM (fun c q => ((List.mem_append.mp q).elim (hlN c) (latTX c)).2) rfl (Nat.le_of_ble_eq_true rfl) (wd hw 226 rfl) (wd hw 227 rfl) (wd hw 228 rfl) (wd hw 229 rfl) (wd hw 1 rfl) at_182 rfl (Nat.le_of_ble_eq_true rfl) (by decide) (by decide) (Nat.le_of_ble_eq_true rfl) (Nat.le_of_ble_eq_true rfl) ?_
    intro T141 X141
    show Run _ _ _ _ _ _ _ _ _ _ _ _ T141 (mkF m 185 #[.val (.int len), .val (.int x0), .val (.int x1), .val (.int x2), .val (.int (3 : Int32)), .val (.int c0), .val (.int c1), .val (.int c2), .val (.ref x132), .val (.ref x), .val (.ref ms)] [(.int c0)])
    refine Run.via (fun _ => XS.iload X141.at X141.ex rfl (X141.de at_185) rfl) ?_
    show Run _ _ _ _ _ _ _ _ _ _ _ _ T141 (mkF m 187 #[.val (.int len), .val (.int x0), .val (.int x1), .val (.int x2), .val (.int (3 : Int32)), .val (.int c0), .val (.int c1), .val (.int c2), .val (.ref x132), .val (.ref x), .val (.ref ms)] [(.int c0), (.int c0)])
    refine Run.via (fun _ => XS.icmpYes X141.at X141.ex rfl (pc0 := 187) (pc' := 192) rfl (X141.de at_187) rfl (teq (rfl : c0 = c0)).1 (by decide) (by decide)) ?_
    show Run _ _ _ _ _ _ _ _ _ _ _ _ T141 (mkF m 192 #[.val (.int len), .val (.int x0), .val (.int x1), .val (.int x2), .val (.int (3 : Int32)), .val (.int c0), .val (.int c1), .val (.int c2), .val (.ref x132), .val (.ref x), .val (.ref ms)] [])
    refine Run.via (fun _ => XS.iload X141.at X141.ex rfl (X141.de at_192) rfl) ?_
    show Run _ _ _ _ _ _ _ _ _ _ _ _ T141 (mkF m 194 #[.val (.int len), .val (.int x0), .val (.int x1), .val (.int x2), .val (.int (3 : Int32)), .val (.int c0), .val (.int c1), .val (.int c2), .val (.ref x132), .val (.ref x), .val (.ref ms)] [(.int (3 : Int32))])
    refine Run.via (fun _ => XS.iconst X141.at X141.ex rfl (X141.de at_194)) ?_
    show Run _ _ _ _ _ _ _ _ _ _ _ _ T141 (mkF m 195 #[.val (.int len), .val (.int x0), .val (.int x1), .val (.int x2), .val (.int (3 : Int32)), .val (.int c0), .val (.int c1), .val (.int c2), .val (.ref x132), .val (.ref x), .val (.ref ms)] [(.int (1 : Int32)), (.int (3 : Int32))])
    refine Run.via (fun _ => XS.icmpNo X141.at X141.ex rfl (X141.de at_195) rfl (tlt (by decide : ((1 : Int32) < (3 : Int32)))).2.2.2) ?_
    show Run _ _ _ _ _ _ _ _ _ _ _ _ T141 (mkF m 198 #[.val (.int len), .val (.int x0), .val (.int x1), .val (.int x2), .val (.int (3 : Int32)), .val (.int c0), .val (.int c1), .val (.int c2), .val (.ref x132), .val (.ref x), .val (.ref ms)] [])
    refine Run.via (fun _ => XS.aload X141.at X141.ex rfl (X141.de at_198) rfl rfl) ?_
    show Run _ _ _ _ _ _ _ _ _ _ _ _ T141 (mkF m 200 #[.val (.int len), .val (.int x0), .val (.int x1), .val (.int x2), .val (.int (3 : Int32)), .val (.int c0), .val (.int c1), .val (.int c2), .val (.ref x132), .val (.ref x), .val (.ref ms)] [(.ref ms)])
    refine Run.via (fun _ => XS.iconst X141.at X141.ex rfl (X141.de at_200)) ?_
    show Run _ _ _ _ _ _ _ _ _ _ _ _ T141 (mkF m 201 #[.val (.int len), .val (.int x0), .val (.int x1), .val (.int x2), .val (.int (3 : Int32)), .val (.int c0), .val (.int c1), .val (.int c2), .val (.ref x132), .val (.ref x), .val (.ref ms)] [(.int (1 : Int32)), (.ref ms)])
    refine Run.sch hw hS X141 (W := 0) SM (fun c q => ((List.mem_append.mp q).elim (hlN c) (latTX c)).2) rfl (Nat.le_of_ble_eq_true rfl) (wd hw 226 rfl) (wd hw 227 rfl) (wd hw 228 rfl) (wd hw 229 rfl) (wd hw 1 rfl) at_201 rfl (Nat.le_of_ble_eq_true rfl) (by decide) (by decide) (Nat.le_of_ble_eq_true rfl) (Nat.le_of_ble_eq_true rfl) ?_
    intro T142 X142
    show Run _ _ _ _ _ _ _ _ _ _ _ _ T142 (mkF m 204 #[.val (.int len), .val (.int x0), .val (.int x1), .val (.int x2), .val (.int (3 : Int32)), .val (.int c0), .val (.int c1), .val (.int c2), .val (.ref x132), .val (.ref x), .val (.ref ms)] [(.int c1)])
    refine Run.via (fun _ => XS.iload X142.at X142.ex rfl (X142.de at_204) rfl) ?_
    show Run _ _ _ _ _ _ _ _ _ _ _ _ T142 (mkF m 206 #[.val (.int len), .val (.int x0), .val (.int x1), .val (.int x2), .val (.int (3 : Int32)), .val (.int c0), .val (.int c1), .val (.int c2), .val (.ref x132), .val (.ref x), .val (.ref ms)] [(.int c1), (.int c1)])
    refine Run.via (fun _ => XS.icmpYes X142.at X142.ex rfl (pc0 := 206) (pc' := 211) rfl (X142.de at_206) rfl (teq (rfl : c1 = c1)).1 (by decide) (by decide)) ?_
    show Run _ _ _ _ _ _ _ _ _ _ _ _ T142 (mkF m 211 #[.val (.int len), .val (.int x0), .val (.int x1), .val (.int x2), .val (.int (3 : Int32)), .val (.int c0), .val (.int c1), .val (.int c2), .val (.ref x132), .val (.ref x), .val (.ref ms)] [])
    refine Run.via (fun _ => XS.iload X142.at X142.ex rfl (X142.de at_211) rfl) ?_
    show Run _ _ _ _ _ _ _ _ _ _ _ _ T142 (mkF m 213 #[.val (.int len), .val (.int x0), .val (.int x1), .val (.int x2), .val (.int (3 : Int32)), .val (.int c0), .val (.int c1), .val (.int c2), .val (.ref x132), .val (.ref x), .val (.ref ms)] [(.int (3 : Int32))])
    refine Run.via (fun _ => XS.iconst X142.at X142.ex rfl (X142.de at_213)) ?_
    show Run _ _ _ _ _ _ _ _ _ _ _ _ T142 (mkF m 214 #[.val (.int len), .val (.int x0), .val (.int x1), .val (.int x2), .val (.int (3 : Int32)), .val (.int c0), .val (.int c1), .val (.int c2), .val (.ref x132), .val (.ref x), .val (.ref ms)] [(.int (2 : Int32)), (.int (3 : Int32))])
    refine Run.via (fun _ => XS.icmpNo X142.at X142.ex rfl (X142.de at_214) rfl (tlt (by decide : ((2 : Int32) < (3 : Int32)))).2.2.2) ?_
    show Run _ _ _ _ _ _ _ _ _ _ _ _ T142 (mkF m 217 #[.val (.int len), .val (.int x0), .val (.int x1), .val (.int x2), .val (.int (3 : Int32)), .val (.int c0), .val (.int c1), .val (.int c2), .val (.ref x132), .val (.ref x), .val (.ref ms)] [])
    refine Run.via (fun _ => XS.aload X142.at X142.ex rfl (X142.de at_217) rfl rfl) ?_
    show Run _ _ _ _ _ _ _ _ _ _ _ _ T142 (mkF m 219 #[.val (.int len), .val (.int x0), .val (.int x1), .val (.int x2), .val (.int (3 : Int32)), .val (.int c0), .val (.int c1), .val (.int c2), .val (.ref x132), .val (.ref x), .val (.ref ms)] [(.ref ms)])
    refine Run.via (fun _ => XS.iconst X142.at X142.ex rfl (X142.de at_219)) ?_
    show Run _ _ _ _ _ _ _ _ _ _ _ _ T142 (mkF m 220 #[.val (.int len), .val (.int x0), .val (.int x1), .val (.int x2), .val (.int (3 : Int32)), .val (.int c0), .val (.int c1), .val (.int c2), .val (.ref x132), .val (.ref x), .val (.ref ms)] [(.int (2 : Int32)), (.ref ms)])
    refine Run.sch hw hS X142 (W := 0) SM (fun c q => ((List.mem_append.mp q).elim (hlN c) (latTX c)).2) rfl (Nat.le_of_ble_eq_true rfl) (wd hw 226 rfl) (wd hw 227 rfl) (wd hw 228 rfl) (wd hw 229 rfl) (wd hw 1 rfl) at_220 rfl (Nat.le_of_ble_eq_true rfl) (by decide) (by decide) (Nat.le_of_ble_eq_true rfl) (Nat.le_of_ble_eq_true rfl) ?_
    intro T143 X143
    show Run _ _ _ _ _ _ _ _ _ _ _ _ T143 (mkF m 223 #[.val (.int len), .val (.int x0), .val (.int x1), .val (.int x2), .val (.int (3 : Int32)), .val (.int c0), .val (.int c1), .val (.int c2), .val (.ref x132), .val (.ref x), .val (.ref ms)] [(.int c2)])
    refine Run.via (fun _ => XS.iload X143.at X143.ex rfl (X143.de at_223) rfl) ?_
    show Run _ _ _ _ _ _ _ _ _ _ _ _ T143 (mkF m 225 #[.val (.int len), .val (.int x0), .val (.int x1), .val (.int x2), .val (.int (3 : Int32)), .val (.int c0), .val (.int c1), .val (.int c2), .val (.ref x132), .val (.ref x), .val (.ref ms)] [(.int c2), (.int c2)])
    refine Run.via (fun _ => XS.icmpYes X143.at X143.ex rfl (pc0 := 225) (pc' := 230) rfl (X143.de at_225) rfl (teq (rfl : c2 = c2)).1 (by decide) (by decide)) ?_
    show Run _ _ _ _ _ _ _ _ _ _ _ _ T143 (mkF m 230 #[.val (.int len), .val (.int x0), .val (.int x1), .val (.int x2), .val (.int (3 : Int32)), .val (.int c0), .val (.int c1), .val (.int c2), .val (.ref x132), .val (.ref x), .val (.ref ms)] [])
    refine Run.via (fun _ => XS.aload X143.at X143.ex rfl (X143.de at_230) rfl rfl) ?_
    show Run _ _ _ _ _ _ _ _ _ _ _ _ T143 (mkF m 232 #[.val (.int len), .val (.int x0), .val (.int x1), .val (.int x2), .val (.int (3 : Int32)), .val (.int c0), .val (.int c1), .val (.int c2), .val (.ref x132), .val (.ref x), .val (.ref ms)] [(.ref ms)])
    refine Run.via (fun _ => XS.iload X143.at X143.ex rfl (X143.de at_232) rfl) ?_
    show Run _ _ _ _ _ _ _ _ _ _ _ _ T143 (mkF m 234 #[.val (.int len), .val (.int x0), .val (.int x1), .val (.int x2), .val (.int (3 : Int32)), .val (.int c0), .val (.int c1), .val (.int c2), .val (.ref x132), .val (.ref x), .val (.ref ms)] [(.int (3 : Int32)), (.ref ms)])
    refine Run.callS X143 (y := (⟨"com/example/veneer/veneer/VeneerExceptionUnboundPinLaw", "tail", "(Ljava/lang/String;I)Z"⟩ : MethodName)) (W := 0) (con_ta l hw hS hN hmP hlN (Nat.le_of_ble_eq_true rfl) SM X143.old) (wd hw 221 rfl) (wd hw 222 rfl) (wd hw 223 rfl) (wd hw 224 rfl) (by decide) pd__Ljava_lang_String_I_Z rfl (argsL := [(.ref ms), (.int (3 : Int32))]) (rest := []) rfl (Nat.le_of_ble_eq_true rfl) rfl at_234 (by decide) (by decide) (Nat.le_of_ble_eq_true rfl) (Nat.le_of_ble_eq_true rfl) (nofun) (nofun) ?_
    intro v144 T144 h144 L144 q144 X144 XF144 K144
    obtain rfl := q144
    show Run _ _ _ _ _ _ _ _ _ _ _ _ T144 (mkF m 237 #[.val (.int len), .val (.int x0), .val (.int x1), .val (.int x2), .val (.int (3 : Int32)), .val (.int c0), .val (.int c1), .val (.int c2), .val (.ref x132), .val (.ref x), .val (.ref ms)] [(.int (1 : Int32))])
    exact Run.retN X144 (t := .boolean) rfl (by simp) at_237 (Nat.le_of_ble_eq_true rfl) (Nat.le_of_ble_eq_true rfl) (rfl)
-- part comes
set_option maxRecDepth 65536 in
set_option maxHeartbeats 40000000 in
theorem comes_1 {Post : Tables → Env → Array Value → State → Outcome → State → Prop} (hpost : ∀ tb e args s v u, (limb_1_1.after args s (.returned v) u = true ∧ limb_1_2.after args s (.returned v) u = true ∧ True) → ReturnedEndW s (.returned v) u (Jvm.fieldLocs frame_1_writes args s ++ Jvm.arrayLocs frame_1_arrays args s ++ Jvm.staticLocs frame_1_statics s) 40 8896 → Post tb e args s (.returned v) u) :
    ArmFor flags0 classFile x code maxLocals ret World_1 tables_1 room_1 Calls_1 rest_1 Pre_1 Post := by
  intro l hfl _ _ p e ha hc hk s m args below hf hA hF happ hP
  obtain ⟨hcalls, hrest, hpre⟩ := hP
  obtain ⟨-, -, -, hnamed, -, -, -, hat⟩ := (Spec.applies_iff hf).mp happ
  obtain ⟨hg, hn⟩ := and_e (Cond.before_iff.mp (show (Jvm.Cond.and given_1 narrow_1).before args s = true from hpre))
  obtain ⟨hcount, hg0⟩ := and_e hg
  obtain ⟨ga0, hg1⟩ := and_e hg0
  obtain ⟨ga1, hg2⟩ := and_e hg1
  obtain ⟨ga2, hg3⟩ := and_e hg2
  have ga3 := hg3
  obtain ⟨w0, w1, w2, w3, rfl⟩ : ∃ w0 w1 w2 w3 : Value, args = #[w0, w1, w2, w3] := by
    have hs : args.size = 4 := by simpa [Cond.value, given_1] using hcount
    obtain ⟨L⟩ := args
    match L, hs with
    | [w0, w1, w2, w3], _ => exact ⟨w0, w1, w2, w3, rfl⟩
  have hw := fun d (hd : d ∈ tables_1) => atoms_spec (ws := Jvm.Cond.code x code maxLocals ret :: tables_1) hat d (List.mem_cons_of_mem _ hd)
  obtain ⟨i0, ei0⟩ := is_v ga0
  obtain rfl : w0 = (.int i0) := Option.some.inj ei0
  obtain ⟨i1, ei1⟩ := is_v ga1
  obtain rfl : w1 = (.int i1) := Option.some.inj ei1
  obtain ⟨i2, ei2⟩ := is_v ga2
  obtain rfl : w2 = (.int i2) := Option.some.inj ei2
  obtain ⟨i3, ei3⟩ := is_v ga3
  obtain rfl : w3 = (.int i3) := Option.some.inj ei3
  obtain ⟨hsets, hown0⟩ := atoms_of _ (rest_1_c_eq ▸ (show rest_1_c.before _ s = true from hrest))
  have hS : Sets s := setsOf hsets
  obtain ⟨u, eu⟩ := arr_v (Cond.before_iff.mp (hsets _ (List.mem_of_getElem? (i := 17) rfl)))
  obtain ⟨sn, en⟩ := exa_v (Cond.before_iff.mp (hsets _ (List.mem_of_getElem? (i := 22) rfl)))
  have hEW : EW s _ consts_1 := (EW.cons (wd hw 94 rfl) (by decide) (EW.cons (wd hw 225 rfl) (by decide) (EW.cons (wd hw 14 rfl) (by decide) EW.nil)))
  have hCH : CHv s consts_1 s.vm s.heap := CHv.start hEW (fun p hp => hcalls.2.2.1 p hp) (hsets _ (List.mem_of_getElem? (i := 2) rfl)) (wd hw 15 rfl) (wd hw 1 rfl)
  obtain ⟨n, o, h1, h2, h3, _, L, rfl, ⟨N, -, rfl⟩, -, hq, hnw, -⟩ := con_law l hw hS rfl (by decide) (by decide) (by decide) (by rw [Launch.stackTraces, hfl]; decide) (Sta.start eu (Or.inl (hsets _ (List.mem_of_getElem? (i := 15) rfl)))) (Sta.start en (Or.inl (hsets _ (List.mem_of_getElem? (i := 20) rfl)))) (len := i0) (x0 := i1) (x1 := i2) (x2 := i3) (h0 := s.heap) ⟨Nat.le_refl _, fun _ _ q => q⟩ hEW tables_1 p e ha hc hk s m _ below hf ((Spec.applies_iff_loose hf).mp happ).1 ⟨rfl, State.Warmed39.refl s, rfl, hCH, nofun⟩ (fun _ => ⟨MethodsKnown_of_tablesKnown hcalls.2.1, FramesKnown_of_framesKnown hcalls.1 hf⟩)
  refine ⟨n, _, h1, h2, h3, hpost _ _ _ _ _ _ ⟨Cond.after_iff.mpr rfl, Cond.after_iff.mpr (eq_i res_at (Term.int_eval (1)) rfl), trivial⟩ ⟨hq.1, hq.2.1, hq.2.2.1, (hq.2.2.2.sift fun y hy => Or.inr (N y hy)).mono (by decide) (by decide)⟩⟩
theorem main_1_1 : Claimed_1_1 := comes_1 fun _ _ _ _ _ _ h hF => ⟨h.1, hF⟩
theorem main_1_2 : Claimed_1_2 := comes_1 fun _ _ _ _ _ _ h hF => ⟨h.2.1, hF⟩
end Jvm.Pilot.@@N@@
-- part witness
namespace Jvm.Pilot.@@N@@
open Jvm Jvm.ClassFile Sem Op Lib Jvm.Free Jvm.Stand Jvm.Pilot.@@N@@.Jvm.D
/-! MADE BY PROGRAM (witnessworld.py) out of the Statement's table words and the real class files: 42 classes; the members and pool entries that the words name. The judged class is class 1, her method 1. -/
namespace start1
open Jvm.ClassFile
def u (s : String) : CpInfo := .utf8 (stringToUtf16 s)
/-- a pool by its gaps: so many unusable entries, then the entry; so many at the end -/
def gap : Nat → List CpInfo → List CpInfo
  | 0, r => r
  | n + 1, r => .unusable :: gap n r
def poolList (es : List (Nat × CpInfo)) (last : Nat) : List CpInfo := es.foldr (fun e r => gap e.1 (e.2 :: r)) (gap last [])
def pool (es : List (Nat × CpInfo)) (last : Nat) : Array CpInfo := ⟨poolList es last⟩
def fileOf (pool : Array CpInfo) (this : Nat) (attrs : Array Attribute := #[]) (ms : Array MethodInfo := #[]) (fl : Nat := 33) (sup : Nat := 0) (ifs : Array Nat := #[]) (fds : Array FieldInfo := #[]) : ClassFile where
  minorVersion := 0
  majorVersion := 65
  constantPool := pool
  accessFlags := fl
  thisClass := this
  superClass := sup
  interfaces := ifs
  fields := fds
  methods := ms
  attributes := attrs
def plain (name : String) (sup : Option ClassId) : Class where
  name := name
  kind := .ordinary
  loader := none
  accessFlags := 33
  super := sup
  interfaces := #[]
  cf := none
  fields := #[]
  methods := #[]
  instanceTypes := #[]
  staticTypes := #[]
  resolved := #[]
  callSites := []
  init := .initialized
  statics := none
  mirror := none

def pool0 : Array CpInfo := pool [(5, u "<init>"), (0, u "()V"), (1, .class_ 10), (1, u "java/lang/Object"), (85, u "clone"), (0, u "()Ljava/lang/Object;")] 26

def k0c0 : Code := { maxStack := 0, maxLocals := 1, code := object_method_1_code, exceptionTable := #[], attributes := #[] }
def k0m0 : Method := { name := "<init>", desc := "()V", sig := { parameters := [], returnType := none }, accessFlags := 1, code := some k0c0 }
def k0m1 : Method := { name := "clone", desc := "()Ljava/lang/Object;", sig := { parameters := [], returnType := some (.object "java/lang/Object") }, accessFlags := 260, code := none }
/-- java/lang/Object -/
def k0 : Class := { plain "java/lang/Object" none with
  accessFlags := 33
  interfaces := #[]
  cf := some (fileOf pool0 8 #[] #[{ accessFlags := 1, nameIndex := 5, descriptorIndex := 6, attributes := #[] }, { accessFlags := 260, nameIndex := 96, descriptorIndex := 97, attributes := #[] }] 33 0 #[] #[])
  fields := #[]
  methods := #[k0m0, k0m1]
  instanceTypes := #[]
  staticTypes := #[]
  resolved := Array.replicate 124 none
  statics := none }

def pool1 : Array CpInfo := pool [(2, .class_ 4), (1, u "java/lang/Object"), (0, u "<init>"), (0, u "()V"), (0, .class_ 8), (0, u "java/lang/String"), (0, .methodref 7 10), (0, .nameAndType 5 11), (0, u "([C)V"), (0, .methodref 13 14), (0, .class_ 15), (0, .nameAndType 16 17), (0, u "com/example/veneer/veneer/VeneerException"), (0, u "unbound"), (0, u "(Ljava/lang/String;)Lcom/example/veneer/veneer/VeneerException;"), (0, .methodref 13 19), (0, .nameAndType 20 21), (0, u "getMessage"), (0, u "()Ljava/lang/String;"), (0, .methodref 7 23), (0, .nameAndType 24 25), (0, u "length"), (0, u "()I"), (0, .methodref 7 27), (0, .nameAndType 28 29), (0, u "charAt"), (0, u "(I)C"), (0, .methodref 31 32), (0, .class_ 33), (0, .nameAndType 34 35), (0, u "com/example/veneer/veneer/VeneerExceptionUnboundPinLaw"), (0, u "tail"), (0, u "(Ljava/lang/String;I)Z"), (0, .string 37), (0, u ": the variable has no value here"), (2, u "law"), (0, u "(IIII)Z")] 3

def k1m0 : Method := { name := "<init>", desc := "()V", sig := { parameters := [], returnType := none }, accessFlags := 1, code := none }
def k1c1 : Code := { maxStack := 6, maxLocals := 11, code := code, exceptionTable := #[], attributes := #[] }
def k1m1 : Method := { name := "law", desc := "(IIII)Z", sig := { parameters := [.int, .int, .int, .int], returnType := some .boolean }, accessFlags := 9, code := some k1c1 }
def k1c2 : Code := { maxStack := 3, maxLocals := 3, code := method_3_code, exceptionTable := #[], attributes := #[] }
def k1m2 : Method := { name := "tail", desc := "(Ljava/lang/String;I)Z", sig := { parameters := [(.object "java/lang/String"), .int], returnType := some .boolean }, accessFlags := 10, code := some k1c2 }
/-- com/example/veneer/veneer/VeneerExceptionUnboundPinLaw -/
def k1 : Class := { plain "com/example/veneer/veneer/VeneerExceptionUnboundPinLaw" (some 0) with
  accessFlags := 49
  interfaces := #[]
  cf := some (fileOf pool1 31 #[] #[{ accessFlags := 1, nameIndex := 5, descriptorIndex := 6, attributes := #[] }, { accessFlags := 9, nameIndex := 40, descriptorIndex := 41, attributes := #[] }, { accessFlags := 10, nameIndex := 34, descriptorIndex := 35, attributes := #[] }] 49 2 #[] #[])
  fields := #[]
  methods := #[k1m0, k1m1, k1m2]
  instanceTypes := #[]
  staticTypes := #[]
  resolved := Array.replicate 45 none
  statics := none }

def pool2 : Array CpInfo := pool [(1, .class_ 2), (0, u "java/io/Serializable"), (0, .class_ 4), (0, u "java/lang/Object")] 2

/-- java/io/Serializable -/
def k2 : Class := { plain "java/io/Serializable" (some 0) with
  accessFlags := 1537
  interfaces := #[]
  cf := some (fileOf pool2 1 #[] #[] 1537 3 #[] #[])
  fields := #[]
  methods := #[]
  instanceTypes := #[]
  staticTypes := #[]
  resolved := Array.replicate 7 none
  statics := none }

def pool3 : Array CpInfo := pool [(1, .class_ 2), (0, u "java/lang/Comparable"), (0, .class_ 4), (0, u "java/lang/Object")] 7

/-- java/lang/Comparable -/
def k3 : Class := { plain "java/lang/Comparable" (some 0) with
  accessFlags := 1537
  interfaces := #[]
  cf := some (fileOf pool3 1 #[] #[] 1537 3 #[] #[])
  fields := #[]
  methods := #[]
  instanceTypes := #[]
  staticTypes := #[]
  resolved := Array.replicate 12 none
  statics := none }

def pool4 : Array CpInfo := pool [(2, .class_ 4), (1, u "java/lang/CharSequence"), (42, .class_ 48), (0, u "java/lang/CharSequence$1CodePointIterator"), (10, .class_ 60), (0, u "java/lang/CharSequence$1CharIterator"), (5, .class_ 67), (0, u "java/lang/Object")] 63

/-- java/lang/CharSequence -/
def k4 : Class := { plain "java/lang/CharSequence" (some 0) with
  accessFlags := 1537
  interfaces := #[]
  cf := some (fileOf pool4 2 #[.nestMembers #[47, 59]] #[] 1537 66 #[] #[])
  fields := #[]
  methods := #[]
  instanceTypes := #[]
  staticTypes := #[]
  resolved := Array.replicate 131 none
  statics := none }

def pool5 : Array CpInfo := pool [(1, .class_ 2), (0, u "java/lang/constant/Constable"), (0, .class_ 4), (0, u "java/lang/Object")] 6

/-- java/lang/constant/Constable -/
def k5 : Class := { plain "java/lang/constant/Constable" (some 0) with
  accessFlags := 1537
  interfaces := #[]
  cf := some (fileOf pool5 1 #[] #[] 1537 3 #[] #[])
  fields := #[]
  methods := #[]
  instanceTypes := #[]
  staticTypes := #[]
  resolved := Array.replicate 11 none
  statics := none }

def pool6 : Array CpInfo := pool [(1, .class_ 2), (0, u "java/lang/constant/ConstantDesc"), (0, .class_ 4), (0, u "java/lang/Object")] 32

/-- java/lang/constant/ConstantDesc -/
def k6 : Class := { plain "java/lang/constant/ConstantDesc" (some 0) with
  accessFlags := 1537
  interfaces := #[]
  cf := some (fileOf pool6 1 #[] #[] 1537 3 #[] #[])
  fields := #[]
  methods := #[]
  instanceTypes := #[]
  staticTypes := #[]
  resolved := Array.replicate 37 none
  statics := none }

def pool7 : Array CpInfo := pool [(1, .methodref 2 3), (0, .class_ 4), (0, .nameAndType 5 6), (0, u "java/lang/Object"), (0, u "<init>"), (0, u "()V"), (0, .string 8), (0, u ""), (0, .fieldref 10 11), (0, .class_ 12), (0, .nameAndType 13 14), (0, u "java/lang/String"), (0, u "value"), (0, u "[B"), (0, .fieldref 10 16), (0, .nameAndType 17 18), (0, u "coder"), (0, u "B"), (2, u "hash"), (0, u "I"), (2, u "hashIsZero"), (0, u "Z"), (0, .methodref 10 28), (0, .nameAndType 5 29), (0, u "([CIILjava/lang/Void;)V"), (8, .fieldref 10 39), (0, .nameAndType 40 26), (0, u "COMPACT_STRINGS"), (1, .class_ 44), (1, u "java/lang/StringUTF16"), (0, u "compress"), (1, .methodref 42 48), (0, .nameAndType 49 50), (0, u "coderFromArrayLen"), (0, u "([BI)B"), (3, .methodref 55 56), (0, .class_ 57), (0, .nameAndType 58 59), (0, u "java/util/Arrays"), (0, u "copyOfRange"), (0, u "([BII)[B"), (47, .class_ 109), (1, u "java/lang/StringLatin1"), (32, u "()Z"), (34, .methodref 42 178), (0, .nameAndType 45 179), (0, u "([CII)[B"), (13, .class_ 195), (1, u "java/lang/System"), (16, .methodref 193 213), (0, .nameAndType 214 215), (0, u "arraycopy"), (0, u "(Ljava/lang/Object;ILjava/lang/Object;II)V"), (118, u "()I"), (0, .methodref 10 336), (0, .nameAndType 17 337), (0, u "()B"), (2, u "()[B"), (22, u "([BI)C"), (27, u "(II)V"), (35, u "(I)C"), (61, .methodref 10 490), (0, .nameAndType 5 491), (0, u "(Ljava/lang/AbstractStringBuilder;Ljava/lang/Void;)V"), (0, .methodref 10 493), (0, .nameAndType 494 142), (0, u "isLatin1"), (0, .methodref 107 496), (0, .nameAndType 497 363), (0, u "charAt"), (3, u "checkIndex"), (4, .nameAndType 507 334), (0, u "length"), (24, u "getBytes"), (16, .methodref 550 506), (0, .class_ 551), (0, u "java/lang/AbstractStringBuilder"), (0, .methodref 550 553), (0, .nameAndType 554 340), (0, u "getValue"), (20, .class_ 576), (0, u "java/lang/CharSequence"), (22, u "CASE_INSENSITIVE_ORDER"), (0, u "Ljava/util/Comparator;"), (220, u "([BIB)V"), (188, u "([C)V"), (36, .methodref 550 493), (5, .fieldref 1054 1055), (0, .class_ 1056), (0, .nameAndType 1057 1058), (0, u "jdk/internal/util/Preconditions"), (0, u "SIOOBE_FORMATTER"), (0, u "Ljava/util/function/BiFunction;"), (0, .methodref 1054 1060), (0, .nameAndType 501 1061), (0, u "(IILjava/util/function/BiFunction;)I"), (39, u "serialPersistentFields"), (0, u "[Ljava/io/ObjectStreamField;"), (0, .class_ 1104), (0, u "java/lang/String$CaseInsensitiveComparator"), (1, .class_ 1107), (0, u "java/io/Serializable"), (0, .class_ 1109), (0, u "java/lang/Comparable"), (0, .class_ 1111), (0, u "java/lang/constant/Constable"), (0, .class_ 1113), (0, u "java/lang/constant/ConstantDesc"), (2, u "serialVersionUID"), (0, u "J"), (3, u "REPL"), (0, u "C"), (2, u "LATIN1"), (1, u "UTF16"), (105, u "(Ljava/lang/StringBuilder;)V")] 217

def k7m0 : Method := { name := "<init>", desc := "()V", sig := { parameters := [], returnType := none }, accessFlags := 1, code := none }
def k7c1 : Code := { maxStack := 5, maxLocals := 2, code := jdk_42_method_3_code, exceptionTable := #[], attributes := #[] }
def k7m1 : Method := { name := "<init>", desc := "([C)V", sig := { parameters := [(.array .char)], returnType := none }, accessFlags := 1, code := some k7c1 }
def k7c2 : Code := { maxStack := 3, maxLocals := 2, code := jdk_42_method_53_code, exceptionTable := #[], attributes := #[] }
def k7m2 : Method := { name := "<init>", desc := "(Ljava/lang/StringBuilder;)V", sig := { parameters := [(.object "java/lang/StringBuilder")], returnType := none }, accessFlags := 1, code := some k7c2 }
def k7c3 : Code := { maxStack := 2, maxLocals := 1, code := jdk_42_method_54_code, exceptionTable := #[], attributes := #[] }
def k7m3 : Method := { name := "length", desc := "()I", sig := { parameters := [], returnType := some .int }, accessFlags := 1, code := some k7c3 }
def k7c4 : Code := { maxStack := 2, maxLocals := 2, code := jdk_42_method_56_code, exceptionTable := #[], attributes := #[] }
def k7m4 : Method := { name := "charAt", desc := "(I)C", sig := { parameters := [.int], returnType := some .char }, accessFlags := 1, code := some k7c4 }
def k7c5 : Code := { maxStack := 5, maxLocals := 4, code := jdk_42_method_147_code, exceptionTable := #[], attributes := #[] }
def k7m5 : Method := { name := "getBytes", desc := "([BIB)V", sig := { parameters := [(.array .byte), .int, .byte], returnType := none }, accessFlags := 0, code := some k7c5 }
def k7c6 : Code := { maxStack := 4, maxLocals := 6, code := jdk_42_method_149_code, exceptionTable := #[], attributes := #[] }
def k7m6 : Method := { name := "<init>", desc := "([CIILjava/lang/Void;)V", sig := { parameters := [(.array .char), .int, .int, (.object "java/lang/Void")], returnType := none }, accessFlags := 2, code := some k7c6 }
def k7c7 : Code := { maxStack := 5, maxLocals := 5, code := jdk_42_method_150_code, exceptionTable := #[], attributes := #[] }
def k7m7 : Method := { name := "<init>", desc := "(Ljava/lang/AbstractStringBuilder;Ljava/lang/Void;)V", sig := { parameters := [(.object "java/lang/AbstractStringBuilder"), (.object "java/lang/Void")], returnType := none }, accessFlags := 0, code := some k7c7 }
def k7c8 : Code := { maxStack := 1, maxLocals := 1, code := jdk_42_method_152_code, exceptionTable := #[], attributes := #[] }
def k7m8 : Method := { name := "coder", desc := "()B", sig := { parameters := [], returnType := some .byte }, accessFlags := 0, code := some k7c8 }
def k7c9 : Code := { maxStack := 1, maxLocals := 1, code := jdk_42_method_154_code, exceptionTable := #[], attributes := #[] }
def k7m9 : Method := { name := "isLatin1", desc := "()Z", sig := { parameters := [], returnType := some .boolean }, accessFlags := 0, code := some k7c9 }
def k7c10 : Code := { maxStack := 3, maxLocals := 2, code := jdk_42_method_155_code, exceptionTable := #[], attributes := #[] }
def k7m10 : Method := { name := "checkIndex", desc := "(II)V", sig := { parameters := [.int, .int], returnType := none }, accessFlags := 8, code := some k7c10 }
/-- java/lang/String -/
def k7 : Class := { plain "java/lang/String" (some 0) with
  accessFlags := 49
  interfaces := #[2, 3, 4, 5, 6]
  cf := some (fileOf pool7 10 #[.nestMembers #[1103]] #[{ accessFlags := 1, nameIndex := 5, descriptorIndex := 6, attributes := #[] }, { accessFlags := 1, nameIndex := 5, descriptorIndex := 1010, attributes := #[] }, { accessFlags := 1, nameIndex := 5, descriptorIndex := 1233, attributes := #[] }, { accessFlags := 1, nameIndex := 507, descriptorIndex := 334, attributes := #[] }, { accessFlags := 1, nameIndex := 497, descriptorIndex := 427, attributes := #[] }, { accessFlags := 0, nameIndex := 532, descriptorIndex := 821, attributes := #[] }, { accessFlags := 2, nameIndex := 5, descriptorIndex := 29, attributes := #[] }, { accessFlags := 0, nameIndex := 5, descriptorIndex := 491, attributes := #[] }, { accessFlags := 0, nameIndex := 17, descriptorIndex := 337, attributes := #[] }, { accessFlags := 0, nameIndex := 494, descriptorIndex := 142, attributes := #[] }, { accessFlags := 8, nameIndex := 501, descriptorIndex := 391, attributes := #[] }] 49 2 #[1106, 1108, 575, 1110, 1112] #[{ accessFlags := 18, nameIndex := 13, descriptorIndex := 14, attributes := #[] }, { accessFlags := 18, nameIndex := 17, descriptorIndex := 18, attributes := #[] }, { accessFlags := 2, nameIndex := 21, descriptorIndex := 22, attributes := #[] }, { accessFlags := 2, nameIndex := 25, descriptorIndex := 26, attributes := #[] }, { accessFlags := 26, nameIndex := 1116, descriptorIndex := 1117, attributes := #[] }, { accessFlags := 24, nameIndex := 40, descriptorIndex := 26, attributes := #[] }, { accessFlags := 26, nameIndex := 1101, descriptorIndex := 1102, attributes := #[] }, { accessFlags := 26, nameIndex := 1121, descriptorIndex := 1122, attributes := #[] }, { accessFlags := 25, nameIndex := 599, descriptorIndex := 600, attributes := #[] }, { accessFlags := 24, nameIndex := 1125, descriptorIndex := 18, attributes := #[] }, { accessFlags := 24, nameIndex := 1127, descriptorIndex := 18, attributes := #[] }])
  fields := #[{ name := "value", type := (.array .byte), accessFlags := 18, slot := 0, constantValue := 0 }, { name := "coder", type := .byte, accessFlags := 18, slot := 1, constantValue := 0 }, { name := "hash", type := .int, accessFlags := 2, slot := 2, constantValue := 0 }, { name := "hashIsZero", type := .boolean, accessFlags := 2, slot := 3, constantValue := 0 }, { name := "serialVersionUID", type := .long, accessFlags := 26, slot := 0, constantValue := 0 }, { name := "COMPACT_STRINGS", type := .boolean, accessFlags := 24, slot := 1, constantValue := 0 }, { name := "serialPersistentFields", type := (.array (.object "java/io/ObjectStreamField")), accessFlags := 26, slot := 2, constantValue := 0 }, { name := "REPL", type := .char, accessFlags := 26, slot := 3, constantValue := 0 }, { name := "CASE_INSENSITIVE_ORDER", type := (.object "java/util/Comparator"), accessFlags := 25, slot := 4, constantValue := 0 }, { name := "LATIN1", type := .byte, accessFlags := 24, slot := 5, constantValue := 0 }, { name := "UTF16", type := .byte, accessFlags := 24, slot := 6, constantValue := 0 }]
  methods := #[k7m0, k7m1, k7m2, k7m3, k7m4, k7m5, k7m6, k7m7, k7m8, k7m9, k7m10]
  instanceTypes := #[(.array .byte), .byte, .int, .boolean]
  staticTypes := #[.long, .boolean, (.array (.object "java/io/ObjectStreamField")), .char, (.object "java/util/Comparator"), .byte, .byte]
  resolved := Array.replicate 1451 none
  statics := some 0 }

def pool8 : Array CpInfo := pool [(1, .methodref 2 3), (0, .class_ 4), (0, .nameAndType 5 6), (0, u "java/lang/Object"), (0, u "<init>"), (0, u "()V"), (0, .fieldref 8 9), (0, .class_ 10), (0, .nameAndType 11 12), (0, u "java/lang/Throwable"), (0, u "cause"), (0, u "Ljava/lang/Throwable;"), (0, .fieldref 8 14), (0, .nameAndType 15 16), (0, u "UNASSIGNED_STACK"), (0, u "[Ljava/lang/StackTraceElement;"), (0, .fieldref 8 18), (0, .nameAndType 19 16), (0, u "stackTrace"), (0, .fieldref 8 21), (0, .nameAndType 22 23), (0, u "SUPPRESSED_SENTINEL"), (0, u "Ljava/util/List;"), (0, .fieldref 8 25), (0, .nameAndType 26 23), (0, u "suppressedExceptions"), (0, .methodref 8 28), (0, .nameAndType 29 30), (0, u "fillInStackTrace"), (0, u "()Ljava/lang/Throwable;"), (0, .fieldref 8 32), (0, .nameAndType 33 34), (0, u "detailMessage"), (0, u "Ljava/lang/String;"), (3, u "()Ljava/lang/String;"), (2, u "getMessage"), (51, .class_ 94), (0, u "java/lang/Throwable$WrappedPrintStream"), (6, .class_ 103), (1, u "java/lang/Throwable$PrintStreamOrWriter"), (61, u "$assertionsDisabled"), (0, u "Z"), (26, .class_ 194), (0, u "java/lang/Throwable$WrappedPrintWriter"), (3, .fieldref 8 199), (0, .nameAndType 200 201), (0, u "backtrace"), (0, u "Ljava/lang/Object;"), (0, .methodref 8 203), (0, .nameAndType 29 204), (0, u "(I)Ljava/lang/Throwable;"), (6, u "depth"), (0, u "I"), (10, u "(Ljava/lang/String;)V"), (45, .class_ 271), (1, u "java/lang/Throwable$SentinelHolder"), (32, u "EMPTY_THROWABLE_ARRAY"), (0, u "[Ljava/lang/Throwable;"), (12, .class_ 319), (0, u "java/io/Serializable"), (0, u "serialVersionUID"), (0, u "J"), (5, u "NULL_CAUSE_MESSAGE"), (0, u "SELF_SUPPRESSION_MESSAGE"), (0, u "CAUSE_CAPTION"), (0, u "SUPPRESSED_CAPTION")] 73

def k8c0 : Code := { maxStack := 2, maxLocals := 1, code := jdk_78_method_1_code, exceptionTable := #[], attributes := #[] }
def k8m0 : Method := { name := "<init>", desc := "()V", sig := { parameters := [], returnType := none }, accessFlags := 1, code := some k8c0 }
def k8c1 : Code := { maxStack := 2, maxLocals := 2, code := jdk_78_method_2_code, exceptionTable := #[], attributes := #[] }
def k8m1 : Method := { name := "<init>", desc := "(Ljava/lang/String;)V", sig := { parameters := [(.object "java/lang/String")], returnType := none }, accessFlags := 1, code := some k8c1 }
def k8c2 : Code := { maxStack := 1, maxLocals := 1, code := jdk_78_method_6_code, exceptionTable := #[], attributes := #[] }
def k8m2 : Method := { name := "getMessage", desc := "()Ljava/lang/String;", sig := { parameters := [], returnType := some (.object "java/lang/String") }, accessFlags := 1, code := some k8c2 }
def k8c3 : Code := { maxStack := 2, maxLocals := 1, code := ⟨#[0x2a, 0xb4, 0x00, 0x11, 0xc7, 0x00, 0x0a, 0x2a, 0xb4, 0x00, 0xc6, 0xc6, 0x00, 0x10, 0x2a, 0x03, 0xb6, 0x00, 0xca, 0x57, 0x2a, 0xb2, 0x00, 0x0d, 0xb5, 0x00, 0x11, 0x2a, 0xb0]⟩, exceptionTable := #[], attributes := #[] }
def k8m3 : Method := { name := "fillInStackTrace", desc := "()Ljava/lang/Throwable;", sig := { parameters := [], returnType := some (.object "java/lang/Throwable") }, accessFlags := 33, code := some k8c3 }
def k8m4 : Method := { name := "fillInStackTrace", desc := "(I)Ljava/lang/Throwable;", sig := { parameters := [.int], returnType := some (.object "java/lang/Throwable") }, accessFlags := 258, code := none }
/-- java/lang/Throwable -/
def k8 : Class := { plain "java/lang/Throwable" (some 0) with
  accessFlags := 33
  interfaces := #[2]
  cf := some (fileOf pool8 8 #[.nestMembers #[193, 93, 101, 269]] #[{ accessFlags := 1, nameIndex := 5, descriptorIndex := 6, attributes := #[] }, { accessFlags := 1, nameIndex := 5, descriptorIndex := 223, attributes := #[] }, { accessFlags := 1, nameIndex := 41, descriptorIndex := 38, attributes := #[] }, { accessFlags := 33, nameIndex := 29, descriptorIndex := 30, attributes := #[] }, { accessFlags := 258, nameIndex := 29, descriptorIndex := 204, attributes := #[] }] 33 2 #[318] #[{ accessFlags := 26, nameIndex := 320, descriptorIndex := 321, attributes := #[] }, { accessFlags := 130, nameIndex := 200, descriptorIndex := 201, attributes := #[] }, { accessFlags := 2, nameIndex := 33, descriptorIndex := 34, attributes := #[] }, { accessFlags := 26, nameIndex := 15, descriptorIndex := 16, attributes := #[] }, { accessFlags := 2, nameIndex := 11, descriptorIndex := 12, attributes := #[] }, { accessFlags := 2, nameIndex := 19, descriptorIndex := 16, attributes := #[] }, { accessFlags := 130, nameIndex := 211, descriptorIndex := 212, attributes := #[] }, { accessFlags := 26, nameIndex := 22, descriptorIndex := 23, attributes := #[] }, { accessFlags := 2, nameIndex := 26, descriptorIndex := 23, attributes := #[] }, { accessFlags := 26, nameIndex := 327, descriptorIndex := 34, attributes := #[] }, { accessFlags := 26, nameIndex := 328, descriptorIndex := 34, attributes := #[] }, { accessFlags := 26, nameIndex := 329, descriptorIndex := 34, attributes := #[] }, { accessFlags := 26, nameIndex := 330, descriptorIndex := 34, attributes := #[] }, { accessFlags := 26, nameIndex := 304, descriptorIndex := 305, attributes := #[] }, { accessFlags := 4120, nameIndex := 165, descriptorIndex := 166, attributes := #[] }])
  fields := #[{ name := "serialVersionUID", type := .long, accessFlags := 26, slot := 0, constantValue := 0 }, { name := "backtrace", type := (.object "java/lang/Object"), accessFlags := 130, slot := 0, constantValue := 0 }, { name := "detailMessage", type := (.object "java/lang/String"), accessFlags := 2, slot := 1, constantValue := 0 }, { name := "UNASSIGNED_STACK", type := (.array (.object "java/lang/StackTraceElement")), accessFlags := 26, slot := 1, constantValue := 0 }, { name := "cause", type := (.object "java/lang/Throwable"), accessFlags := 2, slot := 2, constantValue := 0 }, { name := "stackTrace", type := (.array (.object "java/lang/StackTraceElement")), accessFlags := 2, slot := 3, constantValue := 0 }, { name := "depth", type := .int, accessFlags := 130, slot := 4, constantValue := 0 }, { name := "SUPPRESSED_SENTINEL", type := (.object "java/util/List"), accessFlags := 26, slot := 2, constantValue := 0 }, { name := "suppressedExceptions", type := (.object "java/util/List"), accessFlags := 2, slot := 5, constantValue := 0 }, { name := "NULL_CAUSE_MESSAGE", type := (.object "java/lang/String"), accessFlags := 26, slot := 3, constantValue := 0 }, { name := "SELF_SUPPRESSION_MESSAGE", type := (.object "java/lang/String"), accessFlags := 26, slot := 4, constantValue := 0 }, { name := "CAUSE_CAPTION", type := (.object "java/lang/String"), accessFlags := 26, slot := 5, constantValue := 0 }, { name := "SUPPRESSED_CAPTION", type := (.object "java/lang/String"), accessFlags := 26, slot := 6, constantValue := 0 }, { name := "EMPTY_THROWABLE_ARRAY", type := (.array (.object "java/lang/Throwable")), accessFlags := 26, slot := 7, constantValue := 0 }, { name := "$assertionsDisabled", type := .boolean, accessFlags := 4120, slot := 8, constantValue := 0 }]
  methods := #[k8m0, k8m1, k8m2, k8m3, k8m4]
  instanceTypes := #[(.object "java/lang/Object"), (.object "java/lang/String"), (.object "java/lang/Throwable"), (.array (.object "java/lang/StackTraceElement")), .int, (.object "java/util/List")]
  staticTypes := #[.long, (.array (.object "java/lang/StackTraceElement")), (.object "java/util/List"), (.object "java/lang/String"), (.object "java/lang/String"), (.object "java/lang/String"), (.object "java/lang/String"), (.array (.object "java/lang/Throwable")), .boolean]
  resolved := Array.replicate 404 none
  statics := some 1 }

def pool9 : Array CpInfo := pool [(2, .class_ 4), (1, u "java/lang/Throwable"), (0, u "<init>"), (0, u "()V"), (0, .methodref 2 8), (0, .nameAndType 5 9), (0, u "(Ljava/lang/String;)V"), (9, .class_ 20), (0, u "java/lang/Exception"), (0, u "serialVersionUID"), (0, u "J")] 17

def k9m0 : Method := { name := "<init>", desc := "()V", sig := { parameters := [], returnType := none }, accessFlags := 1, code := none }
def k9c1 : Code := { maxStack := 2, maxLocals := 2, code := jdk_59_method_2_code, exceptionTable := #[], attributes := #[] }
def k9m1 : Method := { name := "<init>", desc := "(Ljava/lang/String;)V", sig := { parameters := [(.object "java/lang/String")], returnType := none }, accessFlags := 1, code := some k9c1 }
/-- java/lang/Exception -/
def k9 : Class := { plain "java/lang/Exception" (some 8) with
  accessFlags := 33
  interfaces := #[]
  cf := some (fileOf pool9 19 #[] #[{ accessFlags := 1, nameIndex := 5, descriptorIndex := 6, attributes := #[] }, { accessFlags := 1, nameIndex := 5, descriptorIndex := 9, attributes := #[] }] 33 2 #[] #[{ accessFlags := 24, nameIndex := 21, descriptorIndex := 22, attributes := #[] }])
  fields := #[{ name := "serialVersionUID", type := .long, accessFlags := 24, slot := 0, constantValue := 0 }]
  methods := #[k9m0, k9m1]
  instanceTypes := #[(.object "java/lang/Object"), (.object "java/lang/String"), (.object "java/lang/Throwable"), (.array (.object "java/lang/StackTraceElement")), .int, (.object "java/util/List")]
  staticTypes := #[.long]
  resolved := Array.replicate 40 none
  statics := none }

def pool10 : Array CpInfo := pool [(2, .class_ 4), (1, u "java/lang/Exception"), (0, u "<init>"), (0, u "()V"), (0, .methodref 2 8), (0, .nameAndType 5 9), (0, u "(Ljava/lang/String;)V"), (9, .class_ 20), (0, u "java/lang/RuntimeException"), (0, u "serialVersionUID"), (0, u "J")] 17

def k10m0 : Method := { name := "<init>", desc := "()V", sig := { parameters := [], returnType := none }, accessFlags := 1, code := none }
def k10c1 : Code := { maxStack := 2, maxLocals := 2, code := jdk_58_method_2_code, exceptionTable := #[], attributes := #[] }
def k10m1 : Method := { name := "<init>", desc := "(Ljava/lang/String;)V", sig := { parameters := [(.object "java/lang/String")], returnType := none }, accessFlags := 1, code := some k10c1 }
/-- java/lang/RuntimeException -/
def k10 : Class := { plain "java/lang/RuntimeException" (some 9) with
  accessFlags := 33
  interfaces := #[]
  cf := some (fileOf pool10 19 #[] #[{ accessFlags := 1, nameIndex := 5, descriptorIndex := 6, attributes := #[] }, { accessFlags := 1, nameIndex := 5, descriptorIndex := 9, attributes := #[] }] 33 2 #[] #[{ accessFlags := 24, nameIndex := 21, descriptorIndex := 22, attributes := #[] }])
  fields := #[{ name := "serialVersionUID", type := .long, accessFlags := 24, slot := 0, constantValue := 0 }]
  methods := #[k10m0, k10m1]
  instanceTypes := #[(.object "java/lang/Object"), (.object "java/lang/String"), (.object "java/lang/Throwable"), (.array (.object "java/lang/StackTraceElement")), .int, (.object "java/util/List")]
  staticTypes := #[.long]
  resolved := Array.replicate 40 none
  statics := none }

def pool11 : Array CpInfo := pool [(1, .methodref 2 3), (0, .class_ 4), (0, .nameAndType 5 6), (0, u "java/lang/RuntimeException"), (0, u "<init>"), (0, u "(Ljava/lang/String;)V"), (3, .class_ 11), (0, u "com/example/veneer/veneer/VeneerException"), (0, .class_ 13), (0, u "java/lang/StringBuilder"), (0, .methodref 12 15), (0, .nameAndType 5 16), (0, u "()V"), (0, .methodref 12 18), (0, .nameAndType 19 20), (0, u "append"), (0, u "(Ljava/lang/String;)Ljava/lang/StringBuilder;"), (0, .string 22), (0, u ": the variable has no value here"), (0, .methodref 12 24), (0, .nameAndType 25 26), (0, u "toString"), (0, u "()Ljava/lang/String;"), (0, .methodref 10 3), (21, u "serialVersionUID"), (0, u "J"), (5, u "unbound"), (0, u "(Ljava/lang/String;)Lcom/example/veneer/veneer/VeneerException;")] 7

def k11c0 : Code := { maxStack := 2, maxLocals := 2, code := prog_4_method_1_code, exceptionTable := #[], attributes := #[] }
def k11m0 : Method := { name := "<init>", desc := "(Ljava/lang/String;)V", sig := { parameters := [(.object "java/lang/String")], returnType := none }, accessFlags := 1, code := some k11c0 }
def k11c1 : Code := { maxStack := 4, maxLocals := 1, code := prog_4_method_3_code, exceptionTable := #[], attributes := #[] }
def k11m1 : Method := { name := "unbound", desc := "(Ljava/lang/String;)Lcom/example/veneer/veneer/VeneerException;", sig := { parameters := [(.object "java/lang/String")], returnType := some (.object "com/example/veneer/veneer/VeneerException") }, accessFlags := 8, code := some k11c1 }
/-- com/example/veneer/veneer/VeneerException -/
def k11 : Class := { plain "com/example/veneer/veneer/VeneerException" (some 10) with
  accessFlags := 33
  interfaces := #[]
  cf := some (fileOf pool11 10 #[] #[{ accessFlags := 1, nameIndex := 5, descriptorIndex := 6, attributes := #[] }, { accessFlags := 8, nameIndex := 56, descriptorIndex := 57, attributes := #[] }] 33 2 #[] #[{ accessFlags := 26, nameIndex := 49, descriptorIndex := 50, attributes := #[] }])
  fields := #[{ name := "serialVersionUID", type := .long, accessFlags := 26, slot := 0, constantValue := 0 }]
  methods := #[k11m0, k11m1]
  instanceTypes := #[(.object "java/lang/Object"), (.object "java/lang/String"), (.object "java/lang/Throwable"), (.array (.object "java/lang/StackTraceElement")), .int, (.object "java/util/List")]
  staticTypes := #[.long]
  resolved := Array.replicate 65 none
  statics := none }

def pool12 : Array CpInfo := pool [(1, .class_ 2), (0, u "java/lang/Appendable"), (0, .class_ 4), (0, u "java/lang/Object")] 9

/-- java/lang/Appendable -/
def k12 : Class := { plain "java/lang/Appendable" (some 0) with
  accessFlags := 1537
  interfaces := #[]
  cf := some (fileOf pool12 1 #[] #[] 1537 3 #[] #[])
  fields := #[]
  methods := #[]
  instanceTypes := #[]
  staticTypes := #[]
  resolved := Array.replicate 14 none
  statics := none }

def pool13 : Array CpInfo := pool [(1, .class_ 2), (0, u "java/lang/String"), (0, .methodref 4 5), (0, .class_ 6), (0, .nameAndType 7 8), (0, u "java/lang/Object"), (0, u "<init>"), (0, u "()V"), (1, .class_ 12), (1, u "java/lang/AbstractStringBuilder"), (0, u "EMPTYVALUE"), (0, u "[B"), (0, .fieldref 10 16), (0, .nameAndType 17 14), (0, u "value"), (0, .fieldref 1 19), (0, .nameAndType 20 21), (0, u "COMPACT_STRINGS"), (0, u "Z"), (0, .fieldref 10 23), (0, .nameAndType 24 25), (0, u "coder"), (0, u "B"), (6, .methodref 1 33), (0, .nameAndType 34 35), (0, u "length"), (0, u "()I"), (3, .integer 2147483647), (0, .methodref 1 41), (0, .nameAndType 24 42), (0, u "()B"), (2, u "append"), (0, u "(Ljava/lang/String;)Ljava/lang/AbstractStringBuilder;"), (1, .class_ 49), (0, u "java/lang/CharSequence"), (19, u "(Ljava/lang/String;)V"), (5, u "maybeLatin1"), (3, .fieldref 10 80), (0, .nameAndType 81 82), (0, u "count"), (0, u "I"), (2, u "isLatin1"), (0, u "()Z"), (13, .methodref 10 101), (0, .nameAndType 102 103), (0, u "ensureCapacityInternal"), (0, u "(I)V"), (0, .methodref 10 105), (0, .nameAndType 106 107), (0, u "newCapacity"), (0, u "(I)I"), (0, .methodref 109 110), (0, .class_ 111), (0, .nameAndType 112 113), (0, u "java/util/Arrays"), (0, u "copyOf"), (0, u "([BI)[B"), (0, .methodref 115 116), (0, .class_ 117), (0, .nameAndType 118 119), (0, u "jdk/internal/util/ArraysSupport"), (0, u "newLength"), (0, u "(III)I"), (88, .methodref 10 209), (0, .nameAndType 210 211), (0, u "putStringAt"), (0, u "(ILjava/lang/String;)V"), (5, u "inflateIfNeededFor"), (2, .nameAndType 221 222), (0, u "getBytes"), (0, u "([BIB)V"), (174, .methodref 10 398), (0, .nameAndType 217 69), (0, .methodref 1 220), (3, u "()[B"), (40, .class_ 445), (0, u "java/lang/Appendable"), (106, u "getValue")] 56

def k13m0 : Method := { name := "<init>", desc := "()V", sig := { parameters := [], returnType := none }, accessFlags := 0, code := none }
def k13c1 : Code := { maxStack := 2, maxLocals := 2, code := jdk_68_method_2_code, exceptionTable := #[], attributes := #[] }
def k13m1 : Method := { name := "<init>", desc := "(I)V", sig := { parameters := [.int], returnType := none }, accessFlags := 0, code := some k13c1 }
def k13c2 : Code := { maxStack := 1, maxLocals := 1, code := jdk_68_method_6_code, exceptionTable := #[], attributes := #[] }
def k13m2 : Method := { name := "length", desc := "()I", sig := { parameters := [], returnType := some .int }, accessFlags := 1, code := some k13c2 }
def k13c3 : Code := { maxStack := 4, maxLocals := 3, code := jdk_68_method_9_code, exceptionTable := #[], attributes := #[] }
def k13m3 : Method := { name := "ensureCapacityInternal", desc := "(I)V", sig := { parameters := [.int], returnType := none }, accessFlags := 2, code := some k13c3 }
def k13c4 : Code := { maxStack := 5, maxLocals := 6, code := jdk_68_method_10_code, exceptionTable := #[], attributes := #[] }
def k13m4 : Method := { name := "newCapacity", desc := "(I)I", sig := { parameters := [.int], returnType := some .int }, accessFlags := 2, code := some k13c4 }
def k13c5 : Code := { maxStack := 3, maxLocals := 3, code := jdk_68_method_22_code, exceptionTable := #[], attributes := #[] }
def k13m5 : Method := { name := "append", desc := "(Ljava/lang/String;)Ljava/lang/AbstractStringBuilder;", sig := { parameters := [(.object "java/lang/String")], returnType := some (.object "java/lang/AbstractStringBuilder") }, accessFlags := 1, code := some k13c5 }
def k13c6 : Code := { maxStack := 1, maxLocals := 1, code := jdk_68_method_64_code, exceptionTable := #[], attributes := #[] }
def k13m6 : Method := { name := "getValue", desc := "()[B", sig := { parameters := [], returnType := some (.array .byte) }, accessFlags := 16, code := some k13c6 }
def k13c7 : Code := { maxStack := 1, maxLocals := 1, code := jdk_68_method_68_code, exceptionTable := #[], attributes := #[] }
def k13m7 : Method := { name := "isLatin1", desc := "()Z", sig := { parameters := [], returnType := some .boolean }, accessFlags := 16, code := some k13c7 }
def k13c8 : Code := { maxStack := 2, maxLocals := 2, code := jdk_68_method_71_code, exceptionTable := #[], attributes := #[] }
def k13m8 : Method := { name := "inflateIfNeededFor", desc := "(Ljava/lang/String;)V", sig := { parameters := [(.object "java/lang/String")], returnType := none }, accessFlags := 2, code := some k13c8 }
def k13c9 : Code := { maxStack := 4, maxLocals := 3, code := jdk_68_method_73_code, exceptionTable := #[], attributes := #[] }
def k13m9 : Method := { name := "putStringAt", desc := "(ILjava/lang/String;)V", sig := { parameters := [.int, (.object "java/lang/String")], returnType := none }, accessFlags := 2, code := some k13c9 }
/-- java/lang/AbstractStringBuilder -/
def k13 : Class := { plain "java/lang/AbstractStringBuilder" (some 0) with
  accessFlags := 1056
  interfaces := #[12, 4]
  cf := some (fileOf pool13 10 #[] #[{ accessFlags := 0, nameIndex := 7, descriptorIndex := 8, attributes := #[] }, { accessFlags := 0, nameIndex := 7, descriptorIndex := 103, attributes := #[] }, { accessFlags := 1, nameIndex := 34, descriptorIndex := 35, attributes := #[] }, { accessFlags := 2, nameIndex := 102, descriptorIndex := 103, attributes := #[] }, { accessFlags := 2, nameIndex := 106, descriptorIndex := 107, attributes := #[] }, { accessFlags := 1, nameIndex := 45, descriptorIndex := 46, attributes := #[] }, { accessFlags := 16, nameIndex := 552, descriptorIndex := 403, attributes := #[] }, { accessFlags := 16, nameIndex := 85, descriptorIndex := 86, attributes := #[] }, { accessFlags := 2, nameIndex := 217, descriptorIndex := 69, attributes := #[] }, { accessFlags := 2, nameIndex := 210, descriptorIndex := 211, attributes := #[] }] 1056 4 #[444, 48] #[{ accessFlags := 0, nameIndex := 17, descriptorIndex := 14, attributes := #[] }, { accessFlags := 0, nameIndex := 24, descriptorIndex := 25, attributes := #[] }, { accessFlags := 0, nameIndex := 75, descriptorIndex := 21, attributes := #[] }, { accessFlags := 0, nameIndex := 81, descriptorIndex := 82, attributes := #[] }, { accessFlags := 26, nameIndex := 13, descriptorIndex := 14, attributes := #[] }])
  fields := #[{ name := "value", type := (.array .byte), accessFlags := 0, slot := 0, constantValue := 0 }, { name := "coder", type := .byte, accessFlags := 0, slot := 1, constantValue := 0 }, { name := "maybeLatin1", type := .boolean, accessFlags := 0, slot := 2, constantValue := 0 }, { name := "count", type := .int, accessFlags := 0, slot := 3, constantValue := 0 }, { name := "EMPTYVALUE", type := (.array .byte), accessFlags := 26, slot := 0, constantValue := 0 }]
  methods := #[k13m0, k13m1, k13m2, k13m3, k13m4, k13m5, k13m6, k13m7, k13m8, k13m9]
  instanceTypes := #[(.array .byte), .byte, .boolean, .int]
  staticTypes := #[(.array .byte)]
  resolved := Array.replicate 609 none
  statics := none }

def pool14 : Array CpInfo := pool [(1, .methodref 2 3), (0, .class_ 4), (0, .nameAndType 5 6), (0, u "java/lang/AbstractStringBuilder"), (0, u "<init>"), (0, u "(I)V"), (11, .class_ 20), (1, u "java/lang/String"), (3, .class_ 26), (1, u "java/lang/StringBuilder"), (0, u "append"), (0, u "(Ljava/lang/String;)Ljava/lang/StringBuilder;"), (0, .methodref 2 30), (0, .nameAndType 27 31), (0, u "(Ljava/lang/String;)Ljava/lang/AbstractStringBuilder;"), (105, .methodref 18 138), (0, .nameAndType 5 139), (0, u "(Ljava/lang/StringBuilder;)V"), (5, u "()V"), (10, u "()I"), (186, .methodref 2 344), (0, .nameAndType 345 156), (0, u "length"), (3, .class_ 350), (0, u "java/lang/Appendable"), (0, .class_ 352), (0, u "java/io/Serializable"), (0, .class_ 354), (0, u "java/lang/Comparable"), (0, .class_ 356), (0, u "java/lang/CharSequence"), (0, u "serialVersionUID"), (0, u "J"), (40, u "toString"), (0, u "()Ljava/lang/String;")] 21

def k14c0 : Code := { maxStack := 2, maxLocals := 1, code := jdk_67_method_1_code, exceptionTable := #[], attributes := #[] }
def k14m0 : Method := { name := "<init>", desc := "()V", sig := { parameters := [], returnType := none }, accessFlags := 1, code := some k14c0 }
def k14c1 : Code := { maxStack := 2, maxLocals := 2, code := jdk_67_method_7_code, exceptionTable := #[], attributes := #[] }
def k14m1 : Method := { name := "append", desc := "(Ljava/lang/String;)Ljava/lang/StringBuilder;", sig := { parameters := [(.object "java/lang/String")], returnType := some (.object "java/lang/StringBuilder") }, accessFlags := 1, code := some k14c1 }
def k14c2 : Code := { maxStack := 3, maxLocals := 1, code := jdk_67_method_42_code, exceptionTable := #[], attributes := #[] }
def k14m2 : Method := { name := "toString", desc := "()Ljava/lang/String;", sig := { parameters := [], returnType := some (.object "java/lang/String") }, accessFlags := 1, code := some k14c2 }
def k14c3 : Code := { maxStack := 1, maxLocals := 1, code := jdk_67_method_93_code, exceptionTable := #[], attributes := #[] }
def k14m3 : Method := { name := "length", desc := "()I", sig := { parameters := [], returnType := some .int }, accessFlags := 4161, code := some k14c3 }
/-- java/lang/StringBuilder -/
def k14 : Class := { plain "java/lang/StringBuilder" (some 13) with
  accessFlags := 49
  interfaces := #[12, 2, 3, 4]
  cf := some (fileOf pool14 24 #[] #[{ accessFlags := 1, nameIndex := 5, descriptorIndex := 145, attributes := #[] }, { accessFlags := 1, nameIndex := 27, descriptorIndex := 28, attributes := #[] }, { accessFlags := 1, nameIndex := 399, descriptorIndex := 400, attributes := #[] }, { accessFlags := 4161, nameIndex := 345, descriptorIndex := 156, attributes := #[] }] 49 2 #[349, 351, 353, 355] #[{ accessFlags := 24, nameIndex := 357, descriptorIndex := 358, attributes := #[] }])
  fields := #[{ name := "serialVersionUID", type := .long, accessFlags := 24, slot := 0, constantValue := 0 }]
  methods := #[k14m0, k14m1, k14m2, k14m3]
  instanceTypes := #[(.array .byte), .byte, .boolean, .int]
  staticTypes := #[.long]
  resolved := Array.replicate 422 none
  statics := none }

def pool15 : Array CpInfo := pool [(2, .class_ 4), (1, u "java/lang/Object"), (0, u "<init>"), (0, u "()V"), (1, .class_ 10), (1, u "java/lang/System"), (0, u "allowSecurityManager"), (0, u "I"), (16, u "cons"), (0, u "Ljava/io/Console;"), (77, .class_ 110), (1, u "java/lang/System$CallersHolder"), (43, u "initialErrStream"), (0, u "Ljava/io/PrintStream;"), (19, u "security"), (0, u "Ljava/lang/SecurityManager;"), (31, .class_ 209), (0, u "java/lang/System$1"), (7, u "props"), (0, u "Ljava/util/Properties;"), (2, u "lineSeparator"), (0, u "Ljava/lang/String;"), (96, .class_ 321), (1, u "java/lang/System$LoggerFinder"), (5, .class_ 328), (0, u "java/lang/System$Logger"), (67, u "err"), (2, u "out"), (91, u "notSupportedJnuEncoding"), (15, u "in"), (17, u "initialIn"), (0, u "Ljava/io/InputStream;"), (35, u "bootLayer"), (0, u "Ljava/lang/ModuleLayer;"), (99, .class_ 664), (0, u "java/lang/System$2"), (9, u "NEVER"), (2, u "MAYBE"), (49, u "arraycopy"), (0, u "(Ljava/lang/Object;ILjava/lang/Object;II)V"), (72, .class_ 802), (0, u "java/lang/System$Logger$Level")] 31

def k15m0 : Method := { name := "<init>", desc := "()V", sig := { parameters := [], returnType := none }, accessFlags := 2, code := none }
def k15m1 : Method := { name := "arraycopy", desc := "(Ljava/lang/Object;ILjava/lang/Object;II)V", sig := { parameters := [(.object "java/lang/Object"), .int, (.object "java/lang/Object"), .int, .int], returnType := none }, accessFlags := 265, code := none }
/-- java/lang/System -/
def k15 : Class := { plain "java/lang/System" (some 0) with
  accessFlags := 49
  interfaces := #[]
  cf := some (fileOf pool15 8 #[.nestMembers #[319, 327, 801, 108, 663, 208]] #[{ accessFlags := 2, nameIndex := 5, descriptorIndex := 6, attributes := #[] }, { accessFlags := 265, nameIndex := 727, descriptorIndex := 728, attributes := #[] }] 49 2 #[] #[{ accessFlags := 25, nameIndex := 507, descriptorIndex := 526, attributes := #[] }, { accessFlags := 25, nameIndex := 399, descriptorIndex := 155, attributes := #[] }, { accessFlags := 25, nameIndex := 396, descriptorIndex := 155, attributes := #[] }, { accessFlags := 10, nameIndex := 525, descriptorIndex := 526, attributes := #[] }, { accessFlags := 26, nameIndex := 674, descriptorIndex := 12, attributes := #[] }, { accessFlags := 26, nameIndex := 677, descriptorIndex := 12, attributes := #[] }, { accessFlags := 10, nameIndex := 11, descriptorIndex := 12, attributes := #[] }, { accessFlags := 74, nameIndex := 175, descriptorIndex := 176, attributes := #[] }, { accessFlags := 10, nameIndex := 491, descriptorIndex := 222, attributes := #[] }, { accessFlags := 74, nameIndex := 29, descriptorIndex := 30, attributes := #[] }, { accessFlags := 74, nameIndex := 154, descriptorIndex := 155, attributes := #[] }, { accessFlags := 10, nameIndex := 217, descriptorIndex := 218, attributes := #[] }, { accessFlags := 10, nameIndex := 221, descriptorIndex := 222, attributes := #[] }, { accessFlags := 8, nameIndex := 562, descriptorIndex := 563, attributes := #[] }])
  fields := #[{ name := "in", type := (.object "java/io/InputStream"), accessFlags := 25, slot := 0, constantValue := 0 }, { name := "out", type := (.object "java/io/PrintStream"), accessFlags := 25, slot := 1, constantValue := 0 }, { name := "err", type := (.object "java/io/PrintStream"), accessFlags := 25, slot := 2, constantValue := 0 }, { name := "initialIn", type := (.object "java/io/InputStream"), accessFlags := 10, slot := 3, constantValue := 0 }, { name := "NEVER", type := .int, accessFlags := 26, slot := 4, constantValue := 0 }, { name := "MAYBE", type := .int, accessFlags := 26, slot := 5, constantValue := 0 }, { name := "allowSecurityManager", type := .int, accessFlags := 10, slot := 6, constantValue := 0 }, { name := "security", type := (.object "java/lang/SecurityManager"), accessFlags := 74, slot := 7, constantValue := 0 }, { name := "notSupportedJnuEncoding", type := (.object "java/lang/String"), accessFlags := 10, slot := 8, constantValue := 0 }, { name := "cons", type := (.object "java/io/Console"), accessFlags := 74, slot := 9, constantValue := 0 }, { name := "initialErrStream", type := (.object "java/io/PrintStream"), accessFlags := 74, slot := 10, constantValue := 0 }, { name := "props", type := (.object "java/util/Properties"), accessFlags := 10, slot := 11, constantValue := 0 }, { name := "lineSeparator", type := (.object "java/lang/String"), accessFlags := 10, slot := 12, constantValue := 0 }, { name := "bootLayer", type := (.object "java/lang/ModuleLayer"), accessFlags := 8, slot := 13, constantValue := 0 }]
  methods := #[k15m0, k15m1]
  instanceTypes := #[]
  staticTypes := #[(.object "java/io/InputStream"), (.object "java/io/PrintStream"), (.object "java/io/PrintStream"), (.object "java/io/InputStream"), .int, .int, .int, (.object "java/lang/SecurityManager"), (.object "java/lang/String"), (.object "java/io/Console"), (.object "java/io/PrintStream"), (.object "java/util/Properties"), (.object "java/lang/String"), (.object "java/lang/ModuleLayer")]
  resolved := Array.replicate 834 none
  statics := none }

def pool16 : Array CpInfo := pool [(9, u "<init>"), (6, .class_ 18), (1, u "java/lang/Object"), (0, u "()V"), (1, .class_ 23), (1, u "jdk/internal/util/ArraysSupport"), (0, u "LOG2_ARRAY_LONG_INDEX_SCALE"), (0, u "I"), (2, u "U"), (0, u "Ljdk/internal/misc/Unsafe;"), (8, u "BIG_ENDIAN"), (0, u "Z"), (8, u "LOG2_BYTE_BIT_SIZE"), (4, u "LOG2_ARRAY_INT_INDEX_SCALE"), (54, u "JLA"), (0, u "Ljdk/internal/access/JavaLangAccess;"), (11, u "LOG2_ARRAY_BOOLEAN_INDEX_SCALE"), (9, u "LOG2_ARRAY_BYTE_INDEX_SCALE"), (5, u "LOG2_ARRAY_CHAR_INDEX_SCALE"), (5, u "LOG2_ARRAY_SHORT_INDEX_SCALE"), (18, u "LOG2_ARRAY_FLOAT_INDEX_SCALE"), (24, u "LOG2_ARRAY_DOUBLE_INDEX_SCALE"), (6, .methodref 195 196), (0, .class_ 197), (0, .nameAndType 198 199), (0, u "java/lang/Math"), (0, u "max"), (0, u "(II)I"), (0, .integer 2147483639), (76, u "T_BOOLEAN"), (2, u "T_CHAR"), (1, u "T_FLOAT"), (1, u "T_DOUBLE"), (1, u "T_BYTE"), (1, u "T_SHORT"), (1, u "T_INT"), (1, u "T_LONG"), (1, u "SOFT_MAX_ARRAY_LENGTH"), (56, u "newLength"), (0, u "(III)I")] 25

def k16m0 : Method := { name := "<init>", desc := "()V", sig := { parameters := [], returnType := none }, accessFlags := 2, code := none }
def k16c1 : Code := { maxStack := 3, maxLocals := 4, code := jdk_48_method_27_code, exceptionTable := #[], attributes := #[] }
def k16m1 : Method := { name := "newLength", desc := "(III)I", sig := { parameters := [.int, .int, .int], returnType := some .int }, accessFlags := 9, code := some k16c1 }
/-- jdk/internal/util/ArraysSupport -/
def k16 : Class := { plain "jdk/internal/util/ArraysSupport" (some 0) with
  accessFlags := 33
  interfaces := #[]
  cf := some (fileOf pool16 21 #[] #[{ accessFlags := 2, nameIndex := 9, descriptorIndex := 19, attributes := #[] }, { accessFlags := 9, nameIndex := 351, descriptorIndex := 352, attributes := #[] }] 33 16 #[] #[{ accessFlags := 24, nameIndex := 28, descriptorIndex := 29, attributes := #[] }, { accessFlags := 26, nameIndex := 38, descriptorIndex := 39, attributes := #[] }, { accessFlags := 25, nameIndex := 121, descriptorIndex := 25, attributes := #[] }, { accessFlags := 25, nameIndex := 131, descriptorIndex := 25, attributes := #[] }, { accessFlags := 25, nameIndex := 137, descriptorIndex := 25, attributes := #[] }, { accessFlags := 25, nameIndex := 143, descriptorIndex := 25, attributes := #[] }, { accessFlags := 25, nameIndex := 53, descriptorIndex := 25, attributes := #[] }, { accessFlags := 25, nameIndex := 24, descriptorIndex := 25, attributes := #[] }, { accessFlags := 25, nameIndex := 162, descriptorIndex := 25, attributes := #[] }, { accessFlags := 25, nameIndex := 187, descriptorIndex := 25, attributes := #[] }, { accessFlags := 26, nameIndex := 48, descriptorIndex := 25, attributes := #[] }, { accessFlags := 25, nameIndex := 277, descriptorIndex := 25, attributes := #[] }, { accessFlags := 25, nameIndex := 280, descriptorIndex := 25, attributes := #[] }, { accessFlags := 25, nameIndex := 282, descriptorIndex := 25, attributes := #[] }, { accessFlags := 25, nameIndex := 284, descriptorIndex := 25, attributes := #[] }, { accessFlags := 25, nameIndex := 286, descriptorIndex := 25, attributes := #[] }, { accessFlags := 25, nameIndex := 288, descriptorIndex := 25, attributes := #[] }, { accessFlags := 25, nameIndex := 290, descriptorIndex := 25, attributes := #[] }, { accessFlags := 25, nameIndex := 292, descriptorIndex := 25, attributes := #[] }, { accessFlags := 26, nameIndex := 108, descriptorIndex := 109, attributes := #[] }, { accessFlags := 25, nameIndex := 294, descriptorIndex := 25, attributes := #[] }])
  fields := #[{ name := "U", type := (.object "jdk/internal/misc/Unsafe"), accessFlags := 24, slot := 0, constantValue := 0 }, { name := "BIG_ENDIAN", type := .boolean, accessFlags := 26, slot := 1, constantValue := 0 }, { name := "LOG2_ARRAY_BOOLEAN_INDEX_SCALE", type := .int, accessFlags := 25, slot := 2, constantValue := 0 }, { name := "LOG2_ARRAY_BYTE_INDEX_SCALE", type := .int, accessFlags := 25, slot := 3, constantValue := 0 }, { name := "LOG2_ARRAY_CHAR_INDEX_SCALE", type := .int, accessFlags := 25, slot := 4, constantValue := 0 }, { name := "LOG2_ARRAY_SHORT_INDEX_SCALE", type := .int, accessFlags := 25, slot := 5, constantValue := 0 }, { name := "LOG2_ARRAY_INT_INDEX_SCALE", type := .int, accessFlags := 25, slot := 6, constantValue := 0 }, { name := "LOG2_ARRAY_LONG_INDEX_SCALE", type := .int, accessFlags := 25, slot := 7, constantValue := 0 }, { name := "LOG2_ARRAY_FLOAT_INDEX_SCALE", type := .int, accessFlags := 25, slot := 8, constantValue := 0 }, { name := "LOG2_ARRAY_DOUBLE_INDEX_SCALE", type := .int, accessFlags := 25, slot := 9, constantValue := 0 }, { name := "LOG2_BYTE_BIT_SIZE", type := .int, accessFlags := 26, slot := 10, constantValue := 0 }, { name := "T_BOOLEAN", type := .int, accessFlags := 25, slot := 11, constantValue := 0 }, { name := "T_CHAR", type := .int, accessFlags := 25, slot := 12, constantValue := 0 }, { name := "T_FLOAT", type := .int, accessFlags := 25, slot := 13, constantValue := 0 }, { name := "T_DOUBLE", type := .int, accessFlags := 25, slot := 14, constantValue := 0 }, { name := "T_BYTE", type := .int, accessFlags := 25, slot := 15, constantValue := 0 }, { name := "T_SHORT", type := .int, accessFlags := 25, slot := 16, constantValue := 0 }, { name := "T_INT", type := .int, accessFlags := 25, slot := 17, constantValue := 0 }, { name := "T_LONG", type := .int, accessFlags := 25, slot := 18, constantValue := 0 }, { name := "JLA", type := (.object "jdk/internal/access/JavaLangAccess"), accessFlags := 26, slot := 19, constantValue := 0 }, { name := "SOFT_MAX_ARRAY_LENGTH", type := .int, accessFlags := 25, slot := 20, constantValue := 0 }]
  methods := #[k16m0, k16m1]
  instanceTypes := #[]
  staticTypes := #[(.object "jdk/internal/misc/Unsafe"), .boolean, .int, .int, .int, .int, .int, .int, .int, .int, .int, .int, .int, .int, .int, .int, .int, .int, .int, (.object "jdk/internal/access/JavaLangAccess"), .int]
  resolved := Array.replicate 378 none
  statics := none }

def pool17 : Array CpInfo := pool [(1, .class_ 2), (0, u "java/lang/Math"), (1, .class_ 6), (1, u "java/lang/Object"), (0, u "<init>"), (0, u "()V"), (89, .class_ 100), (1, u "java/lang/Math$RandomNumberGeneratorHolder"), (71, u "negativeZeroFloatBits"), (0, u "J"), (2, u "negativeZeroDoubleBits"), (21, u "max"), (2, u "min"), (43, u "$assertionsDisabled"), (0, u "Z"), (88, u "(II)I"), (2, u "twoToTheDoubleScaleDown"), (0, u "D"), (4, u "twoToTheDoubleScaleUp"), (9, u "E"), (3, u "PI"), (2, u "TAU"), (2, u "DEGREES_TO_RADIANS"), (0, u "RADIANS_TO_DEGREES")] 94

def k17m0 : Method := { name := "<init>", desc := "()V", sig := { parameters := [], returnType := none }, accessFlags := 2, code := none }
def k17c1 : Code := { maxStack := 2, maxLocals := 2, code := jdk_29_method_65_code, exceptionTable := #[], attributes := #[] }
def k17m1 : Method := { name := "max", desc := "(II)I", sig := { parameters := [.int, .int], returnType := some .int }, accessFlags := 9, code := some k17c1 }
def k17c2 : Code := { maxStack := 2, maxLocals := 2, code := jdk_29_method_69_code, exceptionTable := #[], attributes := #[] }
def k17m2 : Method := { name := "min", desc := "(II)I", sig := { parameters := [.int, .int], returnType := some .int }, accessFlags := 9, code := some k17c2 }
/-- java/lang/Math -/
def k17 : Class := { plain "java/lang/Math" (some 0) with
  accessFlags := 49
  interfaces := #[]
  cf := some (fileOf pool17 1 #[.nestMembers #[98]] #[{ accessFlags := 2, nameIndex := 7, descriptorIndex := 8, attributes := #[] }, { accessFlags := 9, nameIndex := 198, descriptorIndex := 335, attributes := #[] }, { accessFlags := 9, nameIndex := 201, descriptorIndex := 335, attributes := #[] }] 49 4 #[] #[{ accessFlags := 25, nameIndex := 354, descriptorIndex := 339, attributes := #[] }, { accessFlags := 25, nameIndex := 358, descriptorIndex := 339, attributes := #[] }, { accessFlags := 25, nameIndex := 361, descriptorIndex := 339, attributes := #[] }, { accessFlags := 26, nameIndex := 364, descriptorIndex := 339, attributes := #[] }, { accessFlags := 26, nameIndex := 365, descriptorIndex := 339, attributes := #[] }, { accessFlags := 26, nameIndex := 172, descriptorIndex := 173, attributes := #[] }, { accessFlags := 26, nameIndex := 176, descriptorIndex := 173, attributes := #[] }, { accessFlags := 8, nameIndex := 344, descriptorIndex := 339, attributes := #[] }, { accessFlags := 8, nameIndex := 338, descriptorIndex := 339, attributes := #[] }, { accessFlags := 4120, nameIndex := 245, descriptorIndex := 246, attributes := #[] }])
  fields := #[{ name := "E", type := .double, accessFlags := 25, slot := 0, constantValue := 0 }, { name := "PI", type := .double, accessFlags := 25, slot := 1, constantValue := 0 }, { name := "TAU", type := .double, accessFlags := 25, slot := 2, constantValue := 0 }, { name := "DEGREES_TO_RADIANS", type := .double, accessFlags := 26, slot := 3, constantValue := 0 }, { name := "RADIANS_TO_DEGREES", type := .double, accessFlags := 26, slot := 4, constantValue := 0 }, { name := "negativeZeroFloatBits", type := .long, accessFlags := 26, slot := 5, constantValue := 0 }, { name := "negativeZeroDoubleBits", type := .long, accessFlags := 26, slot := 6, constantValue := 0 }, { name := "twoToTheDoubleScaleUp", type := .double, accessFlags := 8, slot := 7, constantValue := 0 }, { name := "twoToTheDoubleScaleDown", type := .double, accessFlags := 8, slot := 8, constantValue := 0 }, { name := "$assertionsDisabled", type := .boolean, accessFlags := 4120, slot := 9, constantValue := 0 }]
  methods := #[k17m0, k17m1, k17m2]
  instanceTypes := #[]
  staticTypes := #[.double, .double, .double, .double, .double, .long, .long, .double, .double, .boolean]
  resolved := Array.replicate 460 none
  statics := none }

def pool18 : Array CpInfo := pool [(2, .class_ 4), (1, u "java/lang/Object"), (0, u "<init>"), (0, u "()V"), (7, .class_ 16), (1, u "java/util/Arrays"), (57, .class_ 76), (1, u "java/util/Arrays$NaturalOrder"), (32, u "()Ljava/lang/Object;"), (3, .class_ 115), (1, u "java/util/Arrays$LegacyMergeSort"), (1, u "Z"), (10, .nameAndType 129 109), (0, u "clone"), (9, u "copyOfRange"), (10, .methodref 151 152), (0, .class_ 153), (0, .nameAndType 154 155), (0, u "java/lang/System"), (0, u "arraycopy"), (0, u "(Ljava/lang/Object;ILjava/lang/Object;II)V"), (146, u "copyOf"), (1, .methodref 305 306), (0, .class_ 307), (0, .nameAndType 308 309), (0, u "java/lang/Math"), (0, u "min"), (0, u "(II)I"), (0, .methodref 311 128), (0, .class_ 312), (0, u "[B"), (26, .methodref 14 340), (0, .nameAndType 341 342), (0, u "copyOfRangeByte"), (0, u "([BII)[B"), (0, .methodref 14 344), (0, .nameAndType 345 346), (0, u "checkLength"), (0, u "(II)V"), (28, .class_ 376), (0, u "java/util/Arrays$ArrayList"), (68, u "$assertionsDisabled"), (269, u "MIN_ARRAY_SORT_GRAN"), (0, u "I"), (2, u "INSERTIONSORT_THRESHOLD"), (149, u "([BI)[B"), (105, .class_ 976), (0, u "java/util/Arrays$ArrayItr")] 52

def k18m0 : Method := { name := "<init>", desc := "()V", sig := { parameters := [], returnType := none }, accessFlags := 2, code := none }
def k18c1 : Code := { maxStack := 6, maxLocals := 3, code := jdk_65_method_121_code, exceptionTable := #[], attributes := #[] }
def k18m1 : Method := { name := "copyOf", desc := "([BI)[B", sig := { parameters := [(.array .byte), .int], returnType := some (.array .byte) }, accessFlags := 9, code := some k18c1 }
def k18c2 : Code := { maxStack := 4, maxLocals := 2, code := jdk_65_method_131_code, exceptionTable := #[], attributes := #[] }
def k18m2 : Method := { name := "checkLength", desc := "(II)V", sig := { parameters := [.int, .int], returnType := none }, accessFlags := 10, code := some k18c2 }
def k18c3 : Code := { maxStack := 3, maxLocals := 3, code := jdk_65_method_132_code, exceptionTable := #[], attributes := #[] }
def k18m3 : Method := { name := "copyOfRange", desc := "([BII)[B", sig := { parameters := [(.array .byte), .int, .int], returnType := some (.array .byte) }, accessFlags := 9, code := some k18c3 }
def k18c4 : Code := { maxStack := 6, maxLocals := 5, code := jdk_65_method_133_code, exceptionTable := #[], attributes := #[] }
def k18m4 : Method := { name := "copyOfRangeByte", desc := "([BII)[B", sig := { parameters := [(.array .byte), .int, .int], returnType := some (.array .byte) }, accessFlags := 10, code := some k18c4 }
/-- java/util/Arrays -/
def k18 : Class := { plain "java/util/Arrays" (some 0) with
  accessFlags := 49
  interfaces := #[]
  cf := some (fileOf pool18 14 #[.nestMembers #[975, 375, 113, 74]] #[{ accessFlags := 2, nameIndex := 5, descriptorIndex := 6, attributes := #[] }, { accessFlags := 9, nameIndex := 302, descriptorIndex := 869, attributes := #[] }, { accessFlags := 10, nameIndex := 345, descriptorIndex := 346, attributes := #[] }, { accessFlags := 9, nameIndex := 139, descriptorIndex := 342, attributes := #[] }, { accessFlags := 10, nameIndex := 341, descriptorIndex := 342, attributes := #[] }] 49 2 #[] #[{ accessFlags := 26, nameIndex := 715, descriptorIndex := 716, attributes := #[] }, { accessFlags := 26, nameIndex := 719, descriptorIndex := 716, attributes := #[] }, { accessFlags := 4120, nameIndex := 445, descriptorIndex := 117, attributes := #[] }])
  fields := #[{ name := "MIN_ARRAY_SORT_GRAN", type := .int, accessFlags := 26, slot := 0, constantValue := 0 }, { name := "INSERTIONSORT_THRESHOLD", type := .int, accessFlags := 26, slot := 1, constantValue := 0 }, { name := "$assertionsDisabled", type := .boolean, accessFlags := 4120, slot := 2, constantValue := 0 }]
  methods := #[k18m0, k18m1, k18m2, k18m3, k18m4]
  instanceTypes := #[]
  staticTypes := #[.int, .int, .boolean]
  resolved := Array.replicate 1029 none
  statics := none }

def pool19 : Array CpInfo := pool [(1, .class_ 2), (0, u "java/lang/String"), (1, .class_ 6), (1, u "java/lang/Object"), (0, u "<init>"), (0, u "()V"), (0, .methodref 1 10), (0, .nameAndType 11 12), (0, u "checkIndex"), (0, u "(II)V"), (1, .class_ 16), (1, u "java/lang/StringLatin1"), (36, u "([BI)C"), (67, u "$assertionsDisabled"), (0, u "Z"), (98, .class_ 223), (1, u "java/lang/StringLatin1$LinesSpliterator"), (28, u "charAt"), (137, .class_ 391), (0, u "java/lang/StringLatin1$CharsSpliterator")] 3

def k19m0 : Method := { name := "<init>", desc := "()V", sig := { parameters := [], returnType := none }, accessFlags := 0, code := none }
def k19c1 : Code := { maxStack := 2, maxLocals := 2, code := jdk_43_method_2_code, exceptionTable := #[], attributes := #[] }
def k19m1 : Method := { name := "charAt", desc := "([BI)C", sig := { parameters := [(.array .byte), .int], returnType := some .char }, accessFlags := 9, code := some k19c1 }
/-- java/lang/StringLatin1 -/
def k19 : Class := { plain "java/lang/StringLatin1" (some 0) with
  accessFlags := 48
  interfaces := #[]
  cf := some (fileOf pool19 14 #[.nestMembers #[390, 221]] #[{ accessFlags := 0, nameIndex := 7, descriptorIndex := 8, attributes := #[] }, { accessFlags := 9, nameIndex := 252, descriptorIndex := 53, attributes := #[] }] 48 4 #[] #[{ accessFlags := 4120, nameIndex := 121, descriptorIndex := 122, attributes := #[] }])
  fields := #[{ name := "$assertionsDisabled", type := .boolean, accessFlags := 4120, slot := 0, constantValue := 0 }]
  methods := #[k19m0, k19m1]
  instanceTypes := #[]
  staticTypes := #[.boolean]
  resolved := Array.replicate 395 none
  statics := none }

def pool20 : Array CpInfo := pool [(2, .class_ 4), (1, u "java/lang/Object"), (0, u "<init>"), (0, u "()V"), (17, .class_ 26), (1, u "jdk/internal/util/Preconditions"), (6, u "checkIndex"), (21, .class_ 56), (0, u "jdk/internal/util/Preconditions$4"), (57, .class_ 115), (0, u "jdk/internal/util/Preconditions$1"), (7, u "SIOOBE_FORMATTER"), (0, u "Ljava/util/function/BiFunction;"), (0, .class_ 126), (0, u "jdk/internal/util/Preconditions$2"), (3, u "AIOOBE_FORMATTER"), (0, .class_ 132), (0, u "jdk/internal/util/Preconditions$3"), (3, u "IOOBE_FORMATTER"), (41, u "(IILjava/util/function/BiFunction;)I")] 15

def k20m0 : Method := { name := "<init>", desc := "()V", sig := { parameters := [], returnType := none }, accessFlags := 1, code := none }
def k20c1 : Code := { maxStack := 3, maxLocals := 3, code := jdk_41_method_11_code, exceptionTable := #[], attributes := #[] }
def k20m1 : Method := { name := "checkIndex", desc := "(IILjava/util/function/BiFunction;)I", sig := { parameters := [.int, .int, (.object "java/util/function/BiFunction")], returnType := some .int }, accessFlags := 9, code := some k20c1 }
/-- jdk/internal/util/Preconditions -/
def k20 : Class := { plain "jdk/internal/util/Preconditions" (some 0) with
  accessFlags := 33
  interfaces := #[]
  cf := some (fileOf pool20 24 #[.nestMembers #[55, 131, 125, 114]] #[{ accessFlags := 1, nameIndex := 5, descriptorIndex := 6, attributes := #[] }, { accessFlags := 9, nameIndex := 33, descriptorIndex := 178, attributes := #[] }] 33 2 #[] #[{ accessFlags := 25, nameIndex := 123, descriptorIndex := 124, attributes := #[] }, { accessFlags := 25, nameIndex := 130, descriptorIndex := 124, attributes := #[] }, { accessFlags := 25, nameIndex := 136, descriptorIndex := 124, attributes := #[] }])
  fields := #[{ name := "SIOOBE_FORMATTER", type := (.object "java/util/function/BiFunction"), accessFlags := 25, slot := 0, constantValue := 0 }, { name := "AIOOBE_FORMATTER", type := (.object "java/util/function/BiFunction"), accessFlags := 25, slot := 1, constantValue := 0 }, { name := "IOOBE_FORMATTER", type := (.object "java/util/function/BiFunction"), accessFlags := 25, slot := 2, constantValue := 0 }]
  methods := #[k20m0, k20m1]
  instanceTypes := #[]
  staticTypes := #[(.object "java/util/function/BiFunction"), (.object "java/util/function/BiFunction"), (.object "java/util/function/BiFunction")]
  resolved := Array.replicate 194 none
  statics := some 2 }

def pool21 : Array CpInfo := pool [(6, .class_ 8), (1, u "java/lang/Object"), (0, u "<init>"), (0, u "()V"), (1, .class_ 14), (1, u "java/lang/StringUTF16"), (31, u "$assertionsDisabled"), (0, u "Z"), (13, u "HI_BYTE_SHIFT"), (0, u "I"), (2, u "LO_BYTE_SHIFT"), (49, .methodref 12 116), (0, .nameAndType 117 118), (0, u "compress"), (0, u "([CI[BII)I"), (3, u "([CII)[B"), (138, u "coderFromArrayLen"), (0, u "([BI)B"), (106, .class_ 371), (1, u "java/lang/StringUTF16$LinesSpliterator"), (58, u "MAX_LENGTH"), (196, .class_ 628), (0, u "java/lang/StringUTF16$CodePointsSpliterator"), (0, .class_ 630), (0, u "java/lang/StringUTF16$CharsSpliterator")] 4

def k21m0 : Method := { name := "<init>", desc := "()V", sig := { parameters := [], returnType := none }, accessFlags := 0, code := none }
def k21c1 : Code := { maxStack := 2, maxLocals := 2, code := jdk_52_method_15_code, exceptionTable := #[], attributes := #[] }
def k21m1 : Method := { name := "coderFromArrayLen", desc := "([BI)B", sig := { parameters := [(.array .byte), .int], returnType := some .byte }, accessFlags := 8, code := some k21c1 }
def k21c2 : Code := { maxStack := 5, maxLocals := 6, code := jdk_52_method_16_code, exceptionTable := #[], attributes := #[] }
def k21m2 : Method := { name := "compress", desc := "([CII)[B", sig := { parameters := [(.array .char), .int, .int], returnType := some (.array .byte) }, accessFlags := 9, code := some k21c2 }
def k21c3 : Code := { maxStack := 3, maxLocals := 7, code := jdk_52_method_21_code, exceptionTable := #[], attributes := #[] }
def k21m3 : Method := { name := "compress", desc := "([CI[BII)I", sig := { parameters := [(.array .char), .int, (.array .byte), .int, .int], returnType := some .int }, accessFlags := 9, code := some k21c3 }
/-- java/lang/StringUTF16 -/
def k21 : Class := { plain "java/lang/StringUTF16" (some 0) with
  accessFlags := 48
  interfaces := #[]
  cf := some (fileOf pool21 12 #[.nestMembers #[627, 629, 369]] #[{ accessFlags := 0, nameIndex := 9, descriptorIndex := 10, attributes := #[] }, { accessFlags := 8, nameIndex := 261, descriptorIndex := 262, attributes := #[] }, { accessFlags := 9, nameIndex := 117, descriptorIndex := 122, attributes := #[] }, { accessFlags := 9, nameIndex := 117, descriptorIndex := 118, attributes := #[] }] 48 6 #[] #[{ accessFlags := 26, nameIndex := 61, descriptorIndex := 62, attributes := #[] }, { accessFlags := 26, nameIndex := 65, descriptorIndex := 62, attributes := #[] }, { accessFlags := 24, nameIndex := 430, descriptorIndex := 62, attributes := #[] }, { accessFlags := 4120, nameIndex := 46, descriptorIndex := 47, attributes := #[] }])
  fields := #[{ name := "HI_BYTE_SHIFT", type := .int, accessFlags := 26, slot := 0, constantValue := 0 }, { name := "LO_BYTE_SHIFT", type := .int, accessFlags := 26, slot := 1, constantValue := 0 }, { name := "MAX_LENGTH", type := .int, accessFlags := 24, slot := 2, constantValue := 0 }, { name := "$assertionsDisabled", type := .boolean, accessFlags := 4120, slot := 3, constantValue := 0 }]
  methods := #[k21m0, k21m1, k21m2, k21m3]
  instanceTypes := #[]
  staticTypes := #[.int, .int, .int, .boolean]
  resolved := Array.replicate 635 none
  statics := none }

def pool22 : Array CpInfo := pool [(1, .class_ 2), (0, u "java/lang/Cloneable"), (0, .class_ 4), (0, u "java/lang/Object")] 2

/-- java/lang/Cloneable -/
def k22 : Class := { plain "java/lang/Cloneable" (some 0) with
  accessFlags := 1537
  interfaces := #[]
  cf := some (fileOf pool22 1 #[] #[] 1537 3 #[] #[])
  fields := #[]
  methods := #[]
  instanceTypes := #[]
  staticTypes := #[]
  resolved := Array.replicate 7 none
  statics := none }

def pool23 : Array CpInfo := pool [(2, .class_ 4), (1, u "java/lang/Object"), (0, u "<init>"), (0, u "()V"), (12, .class_ 20), (0, u "java/util/Collections"), (63, u "r"), (0, u "Ljava/util/Random;"), (80, .class_ 167), (0, u "java/util/Collections$UnmodifiableCollection"), (6, .class_ 175), (0, u "java/util/Collections$UnmodifiableSequencedCollection"), (6, .class_ 183), (0, u "java/util/Collections$UnmodifiableSet"), (6, .class_ 191), (0, u "java/util/Collections$UnmodifiableSequencedSet"), (6, .class_ 199), (0, u "java/util/Collections$UnmodifiableSortedSet"), (6, .class_ 207), (0, u "java/util/Collections$UnmodifiableNavigableSet"), (4, .class_ 213), (0, u "java/util/Collections$UnmodifiableList"), (1, .class_ 216), (0, u "java/util/Collections$UnmodifiableRandomAccessList"), (6, .class_ 224), (0, u "java/util/Collections$UnmodifiableMap"), (6, .class_ 232), (0, u "java/util/Collections$UnmodifiableSequencedMap"), (4, .class_ 238), (0, u "java/util/Collections$UnmodifiableSortedMap"), (6, .class_ 246), (0, u "java/util/Collections$UnmodifiableNavigableMap"), (3, .class_ 251), (0, u "java/util/Collections$SynchronizedCollection"), (4, .class_ 257), (0, u "java/util/Collections$SynchronizedSet"), (4, .class_ 263), (0, u "java/util/Collections$SynchronizedSortedSet"), (1, .class_ 266), (0, u "java/util/Collections$SynchronizedNavigableSet"), (1, .class_ 269), (0, u "java/util/Collections$SynchronizedRandomAccessList"), (1, .class_ 272), (0, u "java/util/Collections$SynchronizedList"), (5, .class_ 279), (0, u "java/util/Collections$SynchronizedMap"), (1, .class_ 282), (0, u "java/util/Collections$SynchronizedSortedMap"), (1, .class_ 285), (0, u "java/util/Collections$SynchronizedNavigableMap"), (1, .class_ 288), (0, u "java/util/Collections$CheckedCollection"), (11, .class_ 301), (0, u "java/util/Collections$CheckedQueue"), (3, .class_ 306), (0, u "java/util/Collections$CheckedSet"), (3, .class_ 311), (0, u "java/util/Collections$CheckedSortedSet"), (3, .class_ 316), (0, u "java/util/Collections$CheckedNavigableSet"), (3, .class_ 321), (0, u "java/util/Collections$CheckedRandomAccessList"), (3, .class_ 326), (0, u "java/util/Collections$CheckedList"), (1, .class_ 329), (0, u "java/util/Collections$CheckedMap"), (3, .class_ 334), (0, u "java/util/Collections$CheckedSortedMap"), (3, .class_ 339), (0, u "java/util/Collections$CheckedNavigableMap"), (4, .class_ 346), (1, u "java/util/Collections$EmptyIterator"), (3, .class_ 352), (1, u "java/util/Collections$EmptyListIterator"), (2, .class_ 357), (1, u "java/util/Collections$EmptyEnumeration"), (4, u "EMPTY_SET"), (0, u "Ljava/util/Set;"), (6, u "EMPTY_LIST"), (0, u "Ljava/util/List;"), (2, u "EMPTY_MAP"), (0, u "Ljava/util/Map;"), (4, .class_ 381), (0, u "java/util/Collections$SingletonSet"), (2, .class_ 385), (0, u "java/util/Collections$1"), (1, .class_ 388), (0, u "java/util/Collections$2"), (1, .class_ 391), (0, u "java/util/Collections$SingletonList"), (1, .class_ 394), (0, u "java/util/Collections$SingletonMap"), (22, .class_ 418), (0, u "java/util/Collections$CopiesList"), (4, .class_ 425), (1, u "java/util/Collections$ReverseComparator"), (8, .class_ 435), (0, u "java/util/Collections$ReverseComparator2"), (6, .class_ 443), (0, u "java/util/Collections$3"), (25, .class_ 470), (0, u "java/util/Collections$SetFromMap"), (2, .class_ 474), (0, u "java/util/Collections$SequencedSetFromMap"), (3, .class_ 479), (0, u "java/util/Collections$AsLIFOQueue"), (11, .class_ 492), (0, u "java/util/Collections$EmptySet"), (1, .class_ 495), (0, u "java/util/Collections$EmptyList"), (1, .class_ 498), (0, u "java/util/Collections$EmptyMap"), (1, u "BINARYSEARCH_THRESHOLD"), (0, u "I"), (2, u "REVERSE_THRESHOLD"), (1, u "SHUFFLE_THRESHOLD"), (1, u "FILL_THRESHOLD"), (1, u "ROTATE_THRESHOLD"), (1, u "COPY_THRESHOLD"), (1, u "REPLACEALL_THRESHOLD"), (1, u "INDEXOFSUBLIST_THRESHOLD"), (333, .class_ 851), (0, u "java/util/Collections$CheckedMap$CheckedEntrySet"), (0, .class_ 853), (0, u "java/util/Collections$CheckedMap$CheckedEntrySet$CheckedEntry"), (0, .class_ 855), (0, u "java/util/Collections$CheckedMap$CheckedEntrySet$1"), (0, .class_ 857), (0, u "java/util/Collections$CheckedList$1"), (0, .class_ 859), (0, u "java/util/Collections$CheckedCollection$1"), (0, .class_ 861), (0, u "java/util/Collections$UnmodifiableNavigableMap$EmptyNavigableMap"), (0, .class_ 863), (0, u "java/util/Collections$UnmodifiableMap$UnmodifiableEntrySet"), (0, .class_ 865), (0, u "java/util/Collections$UnmodifiableMap$UnmodifiableEntrySet$UnmodifiableEntry"), (0, .class_ 867), (0, u "java/util/Collections$UnmodifiableMap$UnmodifiableEntrySet$UnmodifiableEntrySetSpliterator"), (0, .class_ 869), (0, u "java/util/Collections$UnmodifiableMap$UnmodifiableEntrySet$1"), (0, .class_ 871), (0, u "java/util/Collections$UnmodifiableList$1"), (0, .class_ 873), (0, u "java/util/Collections$UnmodifiableNavigableSet$EmptyNavigableSet"), (0, .class_ 875), (0, u "java/util/Collections$UnmodifiableCollection$1")] 57

def k23m0 : Method := { name := "<init>", desc := "()V", sig := { parameters := [], returnType := none }, accessFlags := 2, code := none }
/-- java/util/Collections -/
def k23 : Class := { plain "java/util/Collections" (some 0) with
  accessFlags := 33
  interfaces := #[]
  cf := some (fileOf pool23 19 #[.nestMembers #[478, 473, 469, 434, 423, 417, 393, 390, 380, 497, 494, 491, 355, 350, 344, 338, 333, 328, 850, 852, 854, 320, 325, 856, 315, 310, 305, 300, 287, 858, 284, 281, 278, 268, 271, 265, 262, 256, 250, 245, 860, 237, 231, 223, 862, 864, 866, 868, 215, 212, 870, 206, 872, 198, 190, 182, 174, 166, 874, 442, 387, 384]] #[{ accessFlags := 2, nameIndex := 5, descriptorIndex := 6, attributes := #[] }] 33 2 #[] #[{ accessFlags := 26, nameIndex := 500, descriptorIndex := 501, attributes := #[] }, { accessFlags := 26, nameIndex := 504, descriptorIndex := 501, attributes := #[] }, { accessFlags := 26, nameIndex := 506, descriptorIndex := 501, attributes := #[] }, { accessFlags := 26, nameIndex := 508, descriptorIndex := 501, attributes := #[] }, { accessFlags := 26, nameIndex := 510, descriptorIndex := 501, attributes := #[] }, { accessFlags := 26, nameIndex := 512, descriptorIndex := 501, attributes := #[] }, { accessFlags := 26, nameIndex := 514, descriptorIndex := 501, attributes := #[] }, { accessFlags := 26, nameIndex := 516, descriptorIndex := 501, attributes := #[] }, { accessFlags := 10, nameIndex := 84, descriptorIndex := 85, attributes := #[] }, { accessFlags := 25, nameIndex := 362, descriptorIndex := 363, attributes := #[] }, { accessFlags := 25, nameIndex := 370, descriptorIndex := 371, attributes := #[] }, { accessFlags := 25, nameIndex := 374, descriptorIndex := 375, attributes := #[] }])
  fields := #[{ name := "BINARYSEARCH_THRESHOLD", type := .int, accessFlags := 26, slot := 0, constantValue := 0 }, { name := "REVERSE_THRESHOLD", type := .int, accessFlags := 26, slot := 1, constantValue := 0 }, { name := "SHUFFLE_THRESHOLD", type := .int, accessFlags := 26, slot := 2, constantValue := 0 }, { name := "FILL_THRESHOLD", type := .int, accessFlags := 26, slot := 3, constantValue := 0 }, { name := "ROTATE_THRESHOLD", type := .int, accessFlags := 26, slot := 4, constantValue := 0 }, { name := "COPY_THRESHOLD", type := .int, accessFlags := 26, slot := 5, constantValue := 0 }, { name := "REPLACEALL_THRESHOLD", type := .int, accessFlags := 26, slot := 6, constantValue := 0 }, { name := "INDEXOFSUBLIST_THRESHOLD", type := .int, accessFlags := 26, slot := 7, constantValue := 0 }, { name := "r", type := (.object "java/util/Random"), accessFlags := 10, slot := 8, constantValue := 0 }, { name := "EMPTY_SET", type := (.object "java/util/Set"), accessFlags := 25, slot := 9, constantValue := 0 }, { name := "EMPTY_LIST", type := (.object "java/util/List"), accessFlags := 25, slot := 10, constantValue := 0 }, { name := "EMPTY_MAP", type := (.object "java/util/Map"), accessFlags := 25, slot := 11, constantValue := 0 }]
  methods := #[k23m0]
  instanceTypes := #[]
  staticTypes := #[.int, .int, .int, .int, .int, .int, .int, .int, (.object "java/util/Random"), (.object "java/util/Set"), (.object "java/util/List"), (.object "java/util/Map")]
  resolved := Array.replicate 933 none
  statics := some 3 }

def pool24 : Array CpInfo := pool [(8, .class_ 10), (1, u "java/lang/Iterable"), (24, .class_ 36), (0, u "java/lang/Object")] 25

/-- java/lang/Iterable -/
def k24 : Class := { plain "java/lang/Iterable" (some 0) with
  accessFlags := 1537
  interfaces := #[]
  cf := some (fileOf pool24 8 #[] #[] 1537 35 #[] #[])
  fields := #[]
  methods := #[]
  instanceTypes := #[]
  staticTypes := #[]
  resolved := Array.replicate 62 none
  statics := none }

def pool25 : Array CpInfo := pool [(10, .class_ 12), (1, u "java/util/Collection"), (47, .class_ 61), (0, u "java/lang/Object"), (0, .class_ 63), (0, u "java/lang/Iterable")] 51

/-- java/util/Collection -/
def k25 : Class := { plain "java/util/Collection" (some 0) with
  accessFlags := 1537
  interfaces := #[24]
  cf := some (fileOf pool25 10 #[] #[] 1537 60 #[62] #[])
  fields := #[]
  methods := #[]
  instanceTypes := #[]
  staticTypes := #[]
  resolved := Array.replicate 115 none
  statics := none }

def pool26 : Array CpInfo := pool [(2, .class_ 4), (1, u "java/lang/Object"), (0, u "<init>"), (0, u "()V"), (1, .class_ 10), (1, u "java/util/AbstractCollection"), (66, .class_ 78), (0, u "java/util/Collection")] 81

def k26m0 : Method := { name := "<init>", desc := "()V", sig := { parameters := [], returnType := none }, accessFlags := 4, code := none }
/-- java/util/AbstractCollection -/
def k26 : Class := { plain "java/util/AbstractCollection" (some 0) with
  accessFlags := 1057
  interfaces := #[25]
  cf := some (fileOf pool26 8 #[] #[{ accessFlags := 4, nameIndex := 5, descriptorIndex := 6, attributes := #[] }] 1057 2 #[77] #[])
  fields := #[]
  methods := #[k26m0]
  instanceTypes := #[]
  staticTypes := #[]
  resolved := Array.replicate 160 none
  statics := none }

def pool27 : Array CpInfo := pool [(8, .class_ 10), (1, u "java/util/SequencedCollection"), (15, .class_ 27), (0, u "java/lang/Object"), (0, .class_ 29), (0, u "java/util/Collection")] 27

/-- java/util/SequencedCollection -/
def k27 : Class := { plain "java/util/SequencedCollection" (some 0) with
  accessFlags := 1537
  interfaces := #[25]
  cf := some (fileOf pool27 8 #[] #[] 1537 26 #[28] #[])
  fields := #[]
  methods := #[]
  instanceTypes := #[]
  staticTypes := #[]
  resolved := Array.replicate 57 none
  statics := none }

def pool28 : Array CpInfo := pool [(8, .class_ 10), (1, u "java/util/List"), (92, .class_ 104), (0, u "java/lang/Object"), (15, .class_ 121), (0, u "java/util/SequencedCollection")] 129

/-- java/util/List -/
def k28 : Class := { plain "java/util/List" (some 0) with
  accessFlags := 1537
  interfaces := #[27]
  cf := some (fileOf pool28 8 #[] #[] 1537 103 #[120] #[])
  fields := #[]
  methods := #[]
  instanceTypes := #[]
  staticTypes := #[]
  resolved := Array.replicate 251 none
  statics := none }

def pool29 : Array CpInfo := pool [(2, .class_ 4), (1, u "java/util/AbstractCollection"), (0, u "<init>"), (0, u "()V"), (1, .class_ 10), (1, u "java/util/AbstractList"), (0, u "modCount"), (0, u "I"), (64, .class_ 78), (0, u "java/util/AbstractList$Itr"), (3, .class_ 83), (0, u "java/util/AbstractList$ListItr"), (9, .class_ 94), (0, u "java/util/AbstractList$RandomAccessSubList"), (3, .class_ 99), (0, u "java/util/AbstractList$SubList"), (33, .class_ 134), (0, u "java/util/List"), (73, .class_ 209), (0, u "java/util/AbstractList$SubList$1"), (0, .class_ 211), (0, u "java/util/AbstractList$RandomAccessSpliterator")] 6

def k29m0 : Method := { name := "<init>", desc := "()V", sig := { parameters := [], returnType := none }, accessFlags := 4, code := none }
/-- java/util/AbstractList -/
def k29 : Class := { plain "java/util/AbstractList" (some 26) with
  accessFlags := 1057
  interfaces := #[28]
  cf := some (fileOf pool29 8 #[.nestMembers #[93, 98, 208, 210, 82, 77]] #[{ accessFlags := 4, nameIndex := 5, descriptorIndex := 6, attributes := #[] }] 1057 2 #[133] #[{ accessFlags := 132, nameIndex := 11, descriptorIndex := 12, attributes := #[] }])
  fields := #[{ name := "modCount", type := .int, accessFlags := 132, slot := 0, constantValue := 0 }]
  methods := #[k29m0]
  instanceTypes := #[.int]
  staticTypes := #[]
  resolved := Array.replicate 218 none
  statics := none }

def pool30 : Array CpInfo := pool [(1, .class_ 2), (0, u "java/util/RandomAccess"), (0, .class_ 4), (0, u "java/lang/Object")] 2

/-- java/util/RandomAccess -/
def k30 : Class := { plain "java/util/RandomAccess" (some 0) with
  accessFlags := 1537
  interfaces := #[]
  cf := some (fileOf pool30 1 #[] #[] 1537 3 #[] #[])
  fields := #[]
  methods := #[]
  instanceTypes := #[]
  staticTypes := #[]
  resolved := Array.replicate 7 none
  statics := none }

def pool31 : Array CpInfo := pool [(2, .class_ 4), (1, u "java/util/AbstractList"), (0, u "<init>"), (0, u "()V"), (1, .class_ 10), (1, u "java/util/Collections"), (54, .class_ 66), (0, u "java/util/Collections$EmptyList"), (0, .class_ 68), (0, u "java/util/RandomAccess"), (0, .class_ 70), (0, u "java/io/Serializable"), (0, u "serialVersionUID"), (0, u "J")] 77

def k31m0 : Method := { name := "<init>", desc := "()V", sig := { parameters := [], returnType := none }, accessFlags := 2, code := none }
/-- java/util/Collections$EmptyList -/
def k31 : Class := { plain "java/util/Collections$EmptyList" (some 29) with
  accessFlags := 32
  interfaces := #[30, 2]
  cf := some (fileOf pool31 65 #[.nestHost 8] #[{ accessFlags := 2, nameIndex := 5, descriptorIndex := 6, attributes := #[] }] 32 2 #[67, 69] #[{ accessFlags := 26, nameIndex := 71, descriptorIndex := 72, attributes := #[] }])
  fields := #[{ name := "serialVersionUID", type := .long, accessFlags := 26, slot := 0, constantValue := 0 }]
  methods := #[k31m0]
  instanceTypes := #[.int]
  staticTypes := #[.long]
  resolved := Array.replicate 150 none
  statics := none }

def pool32 : Array CpInfo := pool [(2, .class_ 4), (1, u "java/lang/StackTraceElement"), (0, u "<init>"), (2, .class_ 10), (1, u "java/lang/Object"), (0, u "()V"), (2, u "format"), (0, u "B"), (2, u "classLoaderName"), (0, u "Ljava/lang/String;"), (2, u "moduleName"), (2, u "moduleVersion"), (12, u "declaringClass"), (4, u "methodName"), (2, u "fileName"), (2, u "lineNumber"), (0, u "I"), (65, u "declaringClassObject"), (0, u "Ljava/lang/Class;"), (33, .class_ 153), (1, u "java/lang/StackTraceElement$HashedModules"), (17, .class_ 172), (0, u "java/io/Serializable"), (0, u "NATIVE_METHOD"), (1, u "UNKNOWN_SOURCE"), (2, u "BUILTIN_CLASS_LOADER"), (1, u "JDK_NON_UPGRADEABLE_MODULE"), (1, u "serialVersionUID"), (0, u "J")] 51

def k32m0 : Method := { name := "<init>", desc := "()V", sig := { parameters := [], returnType := none }, accessFlags := 2, code := none }
/-- java/lang/StackTraceElement -/
def k32 : Class := { plain "java/lang/StackTraceElement" (some 0) with
  accessFlags := 49
  interfaces := #[2]
  cf := some (fileOf pool32 2 #[.nestMembers #[151]] #[{ accessFlags := 2, nameIndex := 5, descriptorIndex := 11, attributes := #[] }] 49 8 #[171] #[{ accessFlags := 26, nameIndex := 173, descriptorIndex := 19, attributes := #[] }, { accessFlags := 26, nameIndex := 175, descriptorIndex := 19, attributes := #[] }, { accessFlags := 130, nameIndex := 116, descriptorIndex := 117, attributes := #[] }, { accessFlags := 2, nameIndex := 18, descriptorIndex := 19, attributes := #[] }, { accessFlags := 2, nameIndex := 22, descriptorIndex := 19, attributes := #[] }, { accessFlags := 2, nameIndex := 25, descriptorIndex := 19, attributes := #[] }, { accessFlags := 2, nameIndex := 38, descriptorIndex := 19, attributes := #[] }, { accessFlags := 2, nameIndex := 43, descriptorIndex := 19, attributes := #[] }, { accessFlags := 2, nameIndex := 46, descriptorIndex := 19, attributes := #[] }, { accessFlags := 2, nameIndex := 49, descriptorIndex := 50, attributes := #[] }, { accessFlags := 2, nameIndex := 14, descriptorIndex := 15, attributes := #[] }, { accessFlags := 26, nameIndex := 178, descriptorIndex := 15, attributes := #[] }, { accessFlags := 26, nameIndex := 180, descriptorIndex := 15, attributes := #[] }, { accessFlags := 26, nameIndex := 182, descriptorIndex := 183, attributes := #[] }])
  fields := #[{ name := "NATIVE_METHOD", type := (.object "java/lang/String"), accessFlags := 26, slot := 0, constantValue := 0 }, { name := "UNKNOWN_SOURCE", type := (.object "java/lang/String"), accessFlags := 26, slot := 1, constantValue := 0 }, { name := "declaringClassObject", type := (.object "java/lang/Class"), accessFlags := 130, slot := 0, constantValue := 0 }, { name := "classLoaderName", type := (.object "java/lang/String"), accessFlags := 2, slot := 1, constantValue := 0 }, { name := "moduleName", type := (.object "java/lang/String"), accessFlags := 2, slot := 2, constantValue := 0 }, { name := "moduleVersion", type := (.object "java/lang/String"), accessFlags := 2, slot := 3, constantValue := 0 }, { name := "declaringClass", type := (.object "java/lang/String"), accessFlags := 2, slot := 4, constantValue := 0 }, { name := "methodName", type := (.object "java/lang/String"), accessFlags := 2, slot := 5, constantValue := 0 }, { name := "fileName", type := (.object "java/lang/String"), accessFlags := 2, slot := 6, constantValue := 0 }, { name := "lineNumber", type := .int, accessFlags := 2, slot := 7, constantValue := 0 }, { name := "format", type := .byte, accessFlags := 2, slot := 8, constantValue := 0 }, { name := "BUILTIN_CLASS_LOADER", type := .byte, accessFlags := 26, slot := 2, constantValue := 0 }, { name := "JDK_NON_UPGRADEABLE_MODULE", type := .byte, accessFlags := 26, slot := 3, constantValue := 0 }, { name := "serialVersionUID", type := .long, accessFlags := 26, slot := 4, constantValue := 0 }]
  methods := #[k32m0]
  instanceTypes := #[(.object "java/lang/Class"), (.object "java/lang/String"), (.object "java/lang/String"), (.object "java/lang/String"), (.object "java/lang/String"), (.object "java/lang/String"), (.object "java/lang/String"), .int, .byte]
  staticTypes := #[(.object "java/lang/String"), (.object "java/lang/String"), .byte, .byte, .long]
  resolved := Array.replicate 235 none
  statics := none }

/-- the primitive byte -/
def k33 : Class := { plain "byte" none with kind := .primitive 'B', accessFlags := 0x411 }
/-- [B -/
def k34 : Class := { plain "[B" (some 0) with kind := .array 33 .byte, interfaces := #[22, 2], accessFlags := 1041 }

/-- the primitive char -/
def k35 : Class := { plain "char" none with kind := .primitive 'C', accessFlags := 0x411 }
/-- [C -/
def k36 : Class := { plain "[C" (some 0) with kind := .array 35 .char, interfaces := #[22, 2], accessFlags := 1041 }

/-- the primitive int -/
def k37 : Class := { plain "int" none with kind := .primitive 'I', accessFlags := 0x411 }
/-- [I -/
def k38 : Class := { plain "[I" (some 0) with kind := .array 37 .int, interfaces := #[22, 2], accessFlags := 1041 }

/-- [Ljava/lang/Object; -/
def k39 : Class := { plain "[Ljava/lang/Object;" (some 0) with kind := .array 0 (.object "java/lang/Object"), interfaces := #[22, 2], accessFlags := 1041 }

/-- [Ljava/lang/StackTraceElement; -/
def k40 : Class := { plain "[Ljava/lang/StackTraceElement;" (some 0) with kind := .array 32 (.object "java/lang/StackTraceElement"), interfaces := #[22, 2], accessFlags := 1041 }

/-- [Ljava/lang/Throwable; -/
def k41 : Class := { plain "[Ljava/lang/Throwable;" (some 0) with kind := .array 8 (.object "java/lang/Throwable"), interfaces := #[22, 2], accessFlags := 1041 }

def heap : Heap := #[{ cls := 7, slots := #[.long 0, .int 1, .null, .int 0, .null, .int 0, .int 0], vm := .statics 7 },
  { cls := 8, slots := #[.long 0, .ref 4, .ref 5, .null, .null, .null, .null, .ref 6, .int 1], vm := .statics 8 },
  { cls := 20, slots := #[.null, .null, .null], vm := .statics 20 },
  { cls := 23, slots := #[.int 0, .int 0, .int 0, .int 0, .int 0, .int 0, .int 0, .int 0, .null, .null, .ref 5, .null], vm := .statics 23 },
  { cls := 40, slots := #[], vm := .none },
  { cls := 31, slots := #[.int 0], vm := .none },
  { cls := 41, slots := #[], vm := .none }]
def classes : Array Class := #[k0, k1, k2, k3, k4, k5, k6, k7, k8, k9, k10, k11, k12, k13, k14, k15, k16, k17, k18, k19, k20, k21, k22, k23, k24, k25, k26, k27, k28, k29, k30, k31, k32, k33, k34, k35, k36, k37, k38, k39, k40, k41]
def interned : List (Array UInt16 × Addr) := []
def slotsUsed : Nat := 32
def theMethod : MethodId := ⟨1, 1⟩
def args0 : Array Value := #[.int 2, .int 65, .int 66, .int 1]
def aboutOver (below : List Frame) : State where
  vm := { classes := classes, interned := interned.toArray }
  heap := heap
  slotsUsed := slotsUsed
  threads := #[{ frames := .invoking theMethod args0 :: below }]
def below0 : List Frame := [.native { method := ⟨0, 0⟩, args := #[] }]
def about1 : State := aboutOver below0
def p0 : Program := .bare "" "" ""
def e0 : Env := launch0.env 0 0 0
theorem w_frames : about1.frames = Frame.invoking theMethod args0 :: below0 := rfl
set_option maxRecDepth 65536 in
theorem w_args : argsFit about1.vm theMethod args0 = true := by decide +kernel
set_option maxRecDepth 65536 in
theorem w_heap : heapFits about1 = true := by decide +kernel
set_option maxRecDepth 65536 in
theorem w_runnable : about1.curStatus? = some .runnable := by decide +kernel
set_option maxRecDepth 65536 in
theorem w_alone : about1.alone = true := by decide +kernel
set_option maxRecDepth 65536 in
theorem w_named : about1.methodNamed? x = some theMethod := by decide +kernel
set_option maxRecDepth 65536 in
theorem w_hears : about1.hears theMethod below0 = true := by decide +kernel
set_option maxRecDepth 65536 in
theorem w_ripe : about1.ripe theMethod args0 below0 = true := by decide +kernel
theorem w_running : about1.status = .running := rfl
set_option maxRecDepth 65536 in
theorem w_room : about1.hasRoom e0.platform room_1 = true :=
  launch0.hasRoom_least _ room_1 (by decide +kernel) (by decide +kernel) (by decide +kernel) (by decide +kernel) (by decide +kernel) (by decide +kernel)
theorem allAtoms_all (ts : List Jvm.Cond) (a : Array Jvm.Value) (st : Jvm.State) : (allAtoms ts).before a st = ts.all (fun c => c.before a st) := by
  induction ts with
  | nil => rfl
  | cons c t ih =>
    show (Jvm.Cond.and c (allAtoms t)).before a st = _
    rw [Jvm.Cond.before_and, ih, List.all_cons]
def words1 : List Jvm.Cond := Jvm.Cond.code x code maxLocals ret :: tables_1
/-- a 'code' word, met by the world's own term for the bytes: nothing is compared byte by byte -/
theorem code_word {y : MethodName} {bytes : ByteArray} {mx : Nat} {rt : Option FieldType} {a : Array Value} {s : State} {m : MethodId} {meth : Method} {c : Code} (h1 : s.methodNamed? y = some m) (h2 : s.vm.method? m = some meth) (h3 : meth.code = some c) (h4 : c.code = bytes)
    (h5 : (c.maxLocals == mx && c.exceptionTable.isEmpty && decide (c.maxStack ≤ mostOperands) && decide (meth.sig.returnType = rt) && !meth.locks && decide (parseMethodDescriptor y.desc = some meth.sig)) = true) : (Jvm.Cond.code y bytes mx rt).before a s = true := by
  simp only [Bool.and_eq_true, beq_iff_eq, Bool.not_eq_true', decide_eq_true_eq] at h5
  obtain ⟨⟨⟨⟨⟨g1, g2⟩, g3⟩, g4⟩, g5⟩, g6⟩ := h5
  simp [Cond.before, Cond.holds, Cond.value, h1, h2, h3, h4, g1, g2, g3, g4, g5, g6]
def isCode : Jvm.Cond → Bool
  | .code _ _ _ _ => true
  | _ => false
theorem all_split {L : List Jvm.Cond} {P : Jvm.Cond → Bool} (h1 : L.all (fun c => isCode c || P c) = true) (h2 : ∀ c ∈ L.filter isCode, P c = true) : L.all P = true := by
  refine List.all_eq_true.mpr fun c hc => ?_
  have h := List.all_eq_true.mp h1 c hc
  rcases Bool.eq_false_or_eq_true (isCode c) with hi | hi
  · exact h2 c (List.mem_filter.mpr ⟨hc, hi⟩)
  · simpa [hi] using h
set_option maxRecDepth 65536 in
theorem w_c0 : (Jvm.Cond.code x code maxLocals ret).before args0 about1 = true := code_word (m := ⟨1, 1⟩) (meth := k1m1) (c := k1c1) (by decide +kernel) rfl rfl rfl (by decide +kernel)
set_option maxRecDepth 65536 in
theorem w_c1 : (Jvm.Cond.code ({ cls := "java/lang/String", name := "<init>", desc := "([C)V" } : Jvm.MethodName) jdk_42_method_3_code (2 : Nat) (Option.none : Option Jvm.ClassFile.FieldType)).before args0 about1 = true := code_word (m := ⟨7, 1⟩) (meth := k7m1) (c := k7c1) (by decide +kernel) rfl rfl rfl (by decide +kernel)
set_option maxRecDepth 65536 in
theorem w_c2 : (Jvm.Cond.code ({ cls := "java/lang/String", name := "<init>", desc := "([CIILjava/lang/Void;)V" } : Jvm.MethodName) jdk_42_method_149_code (6 : Nat) (Option.none : Option Jvm.ClassFile.FieldType)).before args0 about1 = true := code_word (m := ⟨7, 6⟩) (meth := k7m6) (c := k7c6) (by decide +kernel) rfl rfl rfl (by decide +kernel)
set_option maxRecDepth 65536 in
theorem w_c3 : (Jvm.Cond.code ({ cls := "java/lang/Object", name := "<init>", desc := "()V" } : Jvm.MethodName) object_method_1_code (1 : Nat) (Option.none : Option Jvm.ClassFile.FieldType)).before args0 about1 = true := code_word (m := ⟨0, 0⟩) (meth := k0m0) (c := k0c0) (by decide +kernel) rfl rfl rfl (by decide +kernel)
set_option maxRecDepth 65536 in
theorem w_c4 : (Jvm.Cond.code ({ cls := "com/example/veneer/veneer/VeneerException", name := "unbound", desc := "(Ljava/lang/String;)Lcom/example/veneer/veneer/VeneerException;" } : Jvm.MethodName) prog_4_method_3_code (1 : Nat) (Option.some (Jvm.ClassFile.FieldType.object "com/example/veneer/veneer/VeneerException"))).before args0 about1 = true := code_word (m := ⟨11, 1⟩) (meth := k11m1) (c := k11c1) (by decide +kernel) rfl rfl rfl (by decide +kernel)
set_option maxRecDepth 65536 in
theorem w_c5 : (Jvm.Cond.code ({ cls := "java/lang/StringBuilder", name := "<init>", desc := "()V" } : Jvm.MethodName) jdk_67_method_1_code (1 : Nat) (Option.none : Option Jvm.ClassFile.FieldType)).before args0 about1 = true := code_word (m := ⟨14, 0⟩) (meth := k14m0) (c := k14c0) (by decide +kernel) rfl rfl rfl (by decide +kernel)
set_option maxRecDepth 65536 in
theorem w_c6 : (Jvm.Cond.code ({ cls := "java/lang/AbstractStringBuilder", name := "<init>", desc := "(I)V" } : Jvm.MethodName) jdk_68_method_2_code (2 : Nat) (Option.none : Option Jvm.ClassFile.FieldType)).before args0 about1 = true := code_word (m := ⟨13, 1⟩) (meth := k13m1) (c := k13c1) (by decide +kernel) rfl rfl rfl (by decide +kernel)
set_option maxRecDepth 65536 in
theorem w_c7 : (Jvm.Cond.code ({ cls := "java/lang/StringBuilder", name := "append", desc := "(Ljava/lang/String;)Ljava/lang/StringBuilder;" } : Jvm.MethodName) jdk_67_method_7_code (2 : Nat) (Option.some (Jvm.ClassFile.FieldType.object "java/lang/StringBuilder"))).before args0 about1 = true := code_word (m := ⟨14, 1⟩) (meth := k14m1) (c := k14c1) (by decide +kernel) rfl rfl rfl (by decide +kernel)
set_option maxRecDepth 65536 in
theorem w_c8 : (Jvm.Cond.code ({ cls := "java/lang/AbstractStringBuilder", name := "append", desc := "(Ljava/lang/String;)Ljava/lang/AbstractStringBuilder;" } : Jvm.MethodName) jdk_68_method_22_code (3 : Nat) (Option.some (Jvm.ClassFile.FieldType.object "java/lang/AbstractStringBuilder"))).before args0 about1 = true := code_word (m := ⟨13, 5⟩) (meth := k13m5) (c := k13c5) (by decide +kernel) rfl rfl rfl (by decide +kernel)
set_option maxRecDepth 65536 in
theorem w_c9 : (Jvm.Cond.code ({ cls := "java/lang/String", name := "length", desc := "()I" } : Jvm.MethodName) jdk_42_method_54_code (1 : Nat) (Option.some Jvm.ClassFile.FieldType.int)).before args0 about1 = true := code_word (m := ⟨7, 3⟩) (meth := k7m3) (c := k7c3) (by decide +kernel) rfl rfl rfl (by decide +kernel)
set_option maxRecDepth 65536 in
theorem w_c10 : (Jvm.Cond.code ({ cls := "java/lang/String", name := "coder", desc := "()B" } : Jvm.MethodName) jdk_42_method_152_code (1 : Nat) (Option.some Jvm.ClassFile.FieldType.byte)).before args0 about1 = true := code_word (m := ⟨7, 8⟩) (meth := k7m8) (c := k7c8) (by decide +kernel) rfl rfl rfl (by decide +kernel)
set_option maxRecDepth 65536 in
theorem w_c11 : (Jvm.Cond.code ({ cls := "java/lang/AbstractStringBuilder", name := "ensureCapacityInternal", desc := "(I)V" } : Jvm.MethodName) jdk_68_method_9_code (3 : Nat) (Option.none : Option Jvm.ClassFile.FieldType)).before args0 about1 = true := code_word (m := ⟨13, 3⟩) (meth := k13m3) (c := k13c3) (by decide +kernel) rfl rfl rfl (by decide +kernel)
set_option maxRecDepth 65536 in
theorem w_c12 : (Jvm.Cond.code ({ cls := "java/lang/AbstractStringBuilder", name := "putStringAt", desc := "(ILjava/lang/String;)V" } : Jvm.MethodName) jdk_68_method_73_code (3 : Nat) (Option.none : Option Jvm.ClassFile.FieldType)).before args0 about1 = true := code_word (m := ⟨13, 9⟩) (meth := k13m9) (c := k13c9) (by decide +kernel) rfl rfl rfl (by decide +kernel)
set_option maxRecDepth 65536 in
theorem w_c13 : (Jvm.Cond.code ({ cls := "java/lang/AbstractStringBuilder", name := "inflateIfNeededFor", desc := "(Ljava/lang/String;)V" } : Jvm.MethodName) jdk_68_method_71_code (2 : Nat) (Option.none : Option Jvm.ClassFile.FieldType)).before args0 about1 = true := code_word (m := ⟨13, 8⟩) (meth := k13m8) (c := k13c8) (by decide +kernel) rfl rfl rfl (by decide +kernel)
set_option maxRecDepth 65536 in
theorem w_c14 : (Jvm.Cond.code ({ cls := "java/lang/String", name := "getBytes", desc := "([BIB)V" } : Jvm.MethodName) jdk_42_method_147_code (4 : Nat) (Option.none : Option Jvm.ClassFile.FieldType)).before args0 about1 = true := code_word (m := ⟨7, 5⟩) (meth := k7m5) (c := k7c5) (by decide +kernel) rfl rfl rfl (by decide +kernel)
set_option maxRecDepth 65536 in
theorem w_c15 : (Jvm.Cond.code ({ cls := "java/lang/AbstractStringBuilder", name := "newCapacity", desc := "(I)I" } : Jvm.MethodName) jdk_68_method_10_code (6 : Nat) (Option.some Jvm.ClassFile.FieldType.int)).before args0 about1 = true := code_word (m := ⟨13, 4⟩) (meth := k13m4) (c := k13c4) (by decide +kernel) rfl rfl rfl (by decide +kernel)
set_option maxRecDepth 65536 in
theorem w_c16 : (Jvm.Cond.code ({ cls := "jdk/internal/util/ArraysSupport", name := "newLength", desc := "(III)I" } : Jvm.MethodName) jdk_48_method_27_code (4 : Nat) (Option.some Jvm.ClassFile.FieldType.int)).before args0 about1 = true := code_word (m := ⟨16, 1⟩) (meth := k16m1) (c := k16c1) (by decide +kernel) rfl rfl rfl (by decide +kernel)
set_option maxRecDepth 65536 in
theorem w_c17 : (Jvm.Cond.code ({ cls := "java/lang/Math", name := "max", desc := "(II)I" } : Jvm.MethodName) jdk_29_method_65_code (2 : Nat) (Option.some Jvm.ClassFile.FieldType.int)).before args0 about1 = true := code_word (m := ⟨17, 1⟩) (meth := k17m1) (c := k17c1) (by decide +kernel) rfl rfl rfl (by decide +kernel)
set_option maxRecDepth 65536 in
theorem w_c18 : (Jvm.Cond.code ({ cls := "java/util/Arrays", name := "copyOf", desc := "([BI)[B" } : Jvm.MethodName) jdk_65_method_121_code (3 : Nat) (Option.some (Jvm.ClassFile.FieldType.array Jvm.ClassFile.FieldType.byte))).before args0 about1 = true := code_word (m := ⟨18, 1⟩) (meth := k18m1) (c := k18c1) (by decide +kernel) rfl rfl rfl (by decide +kernel)
set_option maxRecDepth 65536 in
theorem w_c19 : (Jvm.Cond.code ({ cls := "java/lang/Math", name := "min", desc := "(II)I" } : Jvm.MethodName) jdk_29_method_69_code (2 : Nat) (Option.some Jvm.ClassFile.FieldType.int)).before args0 about1 = true := code_word (m := ⟨17, 2⟩) (meth := k17m2) (c := k17c2) (by decide +kernel) rfl rfl rfl (by decide +kernel)
set_option maxRecDepth 65536 in
theorem w_c20 : (Jvm.Cond.code ({ cls := "java/lang/StringBuilder", name := "toString", desc := "()Ljava/lang/String;" } : Jvm.MethodName) jdk_67_method_42_code (1 : Nat) (Option.some (Jvm.ClassFile.FieldType.object "java/lang/String"))).before args0 about1 = true := code_word (m := ⟨14, 2⟩) (meth := k14m2) (c := k14c2) (by decide +kernel) rfl rfl rfl (by decide +kernel)
set_option maxRecDepth 65536 in
theorem w_c21 : (Jvm.Cond.code ({ cls := "java/lang/String", name := "<init>", desc := "(Ljava/lang/StringBuilder;)V" } : Jvm.MethodName) jdk_42_method_53_code (2 : Nat) (Option.none : Option Jvm.ClassFile.FieldType)).before args0 about1 = true := code_word (m := ⟨7, 2⟩) (meth := k7m2) (c := k7c2) (by decide +kernel) rfl rfl rfl (by decide +kernel)
set_option maxRecDepth 65536 in
theorem w_c22 : (Jvm.Cond.code ({ cls := "java/lang/String", name := "<init>", desc := "(Ljava/lang/AbstractStringBuilder;Ljava/lang/Void;)V" } : Jvm.MethodName) jdk_42_method_150_code (5 : Nat) (Option.none : Option Jvm.ClassFile.FieldType)).before args0 about1 = true := code_word (m := ⟨7, 7⟩) (meth := k7m7) (c := k7c7) (by decide +kernel) rfl rfl rfl (by decide +kernel)
set_option maxRecDepth 65536 in
theorem w_c23 : (Jvm.Cond.code ({ cls := "java/lang/AbstractStringBuilder", name := "getValue", desc := "()[B" } : Jvm.MethodName) jdk_68_method_64_code (1 : Nat) (Option.some (Jvm.ClassFile.FieldType.array Jvm.ClassFile.FieldType.byte))).before args0 about1 = true := code_word (m := ⟨13, 6⟩) (meth := k13m6) (c := k13c6) (by decide +kernel) rfl rfl rfl (by decide +kernel)
set_option maxRecDepth 65536 in
theorem w_c24 : (Jvm.Cond.code ({ cls := "java/lang/StringBuilder", name := "length", desc := "()I" } : Jvm.MethodName) jdk_67_method_93_code (1 : Nat) (Option.some Jvm.ClassFile.FieldType.int)).before args0 about1 = true := code_word (m := ⟨14, 3⟩) (meth := k14m3) (c := k14c3) (by decide +kernel) rfl rfl rfl (by decide +kernel)
set_option maxRecDepth 65536 in
theorem w_c25 : (Jvm.Cond.code ({ cls := "java/lang/AbstractStringBuilder", name := "length", desc := "()I" } : Jvm.MethodName) jdk_68_method_6_code (1 : Nat) (Option.some Jvm.ClassFile.FieldType.int)).before args0 about1 = true := code_word (m := ⟨13, 2⟩) (meth := k13m2) (c := k13c2) (by decide +kernel) rfl rfl rfl (by decide +kernel)
set_option maxRecDepth 65536 in
theorem w_c26 : (Jvm.Cond.code ({ cls := "java/lang/AbstractStringBuilder", name := "isLatin1", desc := "()Z" } : Jvm.MethodName) jdk_68_method_68_code (1 : Nat) (Option.some Jvm.ClassFile.FieldType.boolean)).before args0 about1 = true := code_word (m := ⟨13, 7⟩) (meth := k13m7) (c := k13c7) (by decide +kernel) rfl rfl rfl (by decide +kernel)
set_option maxRecDepth 65536 in
theorem w_c27 : (Jvm.Cond.code ({ cls := "java/util/Arrays", name := "copyOfRange", desc := "([BII)[B" } : Jvm.MethodName) jdk_65_method_132_code (3 : Nat) (Option.some (Jvm.ClassFile.FieldType.array Jvm.ClassFile.FieldType.byte))).before args0 about1 = true := code_word (m := ⟨18, 3⟩) (meth := k18m3) (c := k18c3) (by decide +kernel) rfl rfl rfl (by decide +kernel)
set_option maxRecDepth 65536 in
theorem w_c28 : (Jvm.Cond.code ({ cls := "java/util/Arrays", name := "copyOfRangeByte", desc := "([BII)[B" } : Jvm.MethodName) jdk_65_method_133_code (5 : Nat) (Option.some (Jvm.ClassFile.FieldType.array Jvm.ClassFile.FieldType.byte))).before args0 about1 = true := code_word (m := ⟨18, 4⟩) (meth := k18m4) (c := k18c4) (by decide +kernel) rfl rfl rfl (by decide +kernel)
set_option maxRecDepth 65536 in
theorem w_c29 : (Jvm.Cond.code ({ cls := "java/util/Arrays", name := "checkLength", desc := "(II)V" } : Jvm.MethodName) jdk_65_method_131_code (2 : Nat) (Option.none : Option Jvm.ClassFile.FieldType)).before args0 about1 = true := code_word (m := ⟨18, 2⟩) (meth := k18m2) (c := k18c2) (by decide +kernel) rfl rfl rfl (by decide +kernel)
set_option maxRecDepth 65536 in
theorem w_c30 : (Jvm.Cond.code ({ cls := "com/example/veneer/veneer/VeneerException", name := "<init>", desc := "(Ljava/lang/String;)V" } : Jvm.MethodName) prog_4_method_1_code (2 : Nat) (Option.none : Option Jvm.ClassFile.FieldType)).before args0 about1 = true := code_word (m := ⟨11, 0⟩) (meth := k11m0) (c := k11c0) (by decide +kernel) rfl rfl rfl (by decide +kernel)
set_option maxRecDepth 65536 in
theorem w_c31 : (Jvm.Cond.code ({ cls := "java/lang/RuntimeException", name := "<init>", desc := "(Ljava/lang/String;)V" } : Jvm.MethodName) jdk_58_method_2_code (2 : Nat) (Option.none : Option Jvm.ClassFile.FieldType)).before args0 about1 = true := code_word (m := ⟨10, 1⟩) (meth := k10m1) (c := k10c1) (by decide +kernel) rfl rfl rfl (by decide +kernel)
set_option maxRecDepth 65536 in
theorem w_c32 : (Jvm.Cond.code ({ cls := "java/lang/Exception", name := "<init>", desc := "(Ljava/lang/String;)V" } : Jvm.MethodName) jdk_59_method_2_code (2 : Nat) (Option.none : Option Jvm.ClassFile.FieldType)).before args0 about1 = true := code_word (m := ⟨9, 1⟩) (meth := k9m1) (c := k9c1) (by decide +kernel) rfl rfl rfl (by decide +kernel)
set_option maxRecDepth 65536 in
theorem w_c33 : (Jvm.Cond.code ({ cls := "java/lang/Throwable", name := "<init>", desc := "(Ljava/lang/String;)V" } : Jvm.MethodName) jdk_78_method_2_code (2 : Nat) (Option.none : Option Jvm.ClassFile.FieldType)).before args0 about1 = true := code_word (m := ⟨8, 1⟩) (meth := k8m1) (c := k8c1) (by decide +kernel) rfl rfl rfl (by decide +kernel)
set_option maxRecDepth 65536 in
theorem w_c34 : (Jvm.Cond.code ({ cls := "java/lang/Throwable", name := "<init>", desc := "()V" } : Jvm.MethodName) jdk_78_method_1_code (1 : Nat) (Option.none : Option Jvm.ClassFile.FieldType)).before args0 about1 = true := code_word (m := ⟨8, 0⟩) (meth := k8m0) (c := k8c0) (by decide +kernel) rfl rfl rfl (by decide +kernel)
set_option maxRecDepth 65536 in
theorem w_c35 : (Jvm.Cond.code ({ cls := "java/lang/Throwable", name := "getMessage", desc := "()Ljava/lang/String;" } : Jvm.MethodName) jdk_78_method_6_code (1 : Nat) (Option.some (Jvm.ClassFile.FieldType.object "java/lang/String"))).before args0 about1 = true := code_word (m := ⟨8, 2⟩) (meth := k8m2) (c := k8c2) (by decide +kernel) rfl rfl rfl (by decide +kernel)
set_option maxRecDepth 65536 in
theorem w_c36 : (Jvm.Cond.code ({ cls := "com/example/veneer/veneer/VeneerExceptionUnboundPinLaw", name := "tail", desc := "(Ljava/lang/String;I)Z" } : Jvm.MethodName) method_3_code (3 : Nat) (Option.some Jvm.ClassFile.FieldType.boolean)).before args0 about1 = true := code_word (m := ⟨1, 2⟩) (meth := k1m2) (c := k1c2) (by decide +kernel) rfl rfl rfl (by decide +kernel)
set_option maxRecDepth 65536 in
theorem w_c37 : (Jvm.Cond.code ({ cls := "java/lang/String", name := "charAt", desc := "(I)C" } : Jvm.MethodName) jdk_42_method_56_code (2 : Nat) (Option.some Jvm.ClassFile.FieldType.char)).before args0 about1 = true := code_word (m := ⟨7, 4⟩) (meth := k7m4) (c := k7c4) (by decide +kernel) rfl rfl rfl (by decide +kernel)
set_option maxRecDepth 65536 in
theorem w_c38 : (Jvm.Cond.code ({ cls := "java/lang/String", name := "isLatin1", desc := "()Z" } : Jvm.MethodName) jdk_42_method_154_code (1 : Nat) (Option.some Jvm.ClassFile.FieldType.boolean)).before args0 about1 = true := code_word (m := ⟨7, 9⟩) (meth := k7m9) (c := k7c9) (by decide +kernel) rfl rfl rfl (by decide +kernel)
set_option maxRecDepth 65536 in
theorem w_c39 : (Jvm.Cond.code ({ cls := "java/lang/StringLatin1", name := "charAt", desc := "([BI)C" } : Jvm.MethodName) jdk_43_method_2_code (2 : Nat) (Option.some Jvm.ClassFile.FieldType.char)).before args0 about1 = true := code_word (m := ⟨19, 1⟩) (meth := k19m1) (c := k19c1) (by decide +kernel) rfl rfl rfl (by decide +kernel)
set_option maxRecDepth 65536 in
theorem w_c40 : (Jvm.Cond.code ({ cls := "java/lang/String", name := "checkIndex", desc := "(II)V" } : Jvm.MethodName) jdk_42_method_155_code (2 : Nat) (Option.none : Option Jvm.ClassFile.FieldType)).before args0 about1 = true := code_word (m := ⟨7, 10⟩) (meth := k7m10) (c := k7c10) (by decide +kernel) rfl rfl rfl (by decide +kernel)
set_option maxRecDepth 65536 in
theorem w_c41 : (Jvm.Cond.code ({ cls := "jdk/internal/util/Preconditions", name := "checkIndex", desc := "(IILjava/util/function/BiFunction;)I" } : Jvm.MethodName) jdk_41_method_11_code (3 : Nat) (Option.some Jvm.ClassFile.FieldType.int)).before args0 about1 = true := code_word (m := ⟨20, 1⟩) (meth := k20m1) (c := k20c1) (by decide +kernel) rfl rfl rfl (by decide +kernel)
set_option maxRecDepth 65536 in
theorem w_c42 : (Jvm.Cond.code ({ cls := "java/lang/StringUTF16", name := "compress", desc := "([CII)[B" } : Jvm.MethodName) jdk_52_method_16_code (6 : Nat) (Option.some (Jvm.ClassFile.FieldType.array Jvm.ClassFile.FieldType.byte))).before args0 about1 = true := code_word (m := ⟨21, 2⟩) (meth := k21m2) (c := k21c2) (by decide +kernel) rfl rfl rfl (by decide +kernel)
set_option maxRecDepth 65536 in
theorem w_c43 : (Jvm.Cond.code ({ cls := "java/lang/StringUTF16", name := "compress", desc := "([CI[BII)I" } : Jvm.MethodName) jdk_52_method_21_code (7 : Nat) (Option.some Jvm.ClassFile.FieldType.int)).before args0 about1 = true := code_word (m := ⟨21, 3⟩) (meth := k21m3) (c := k21c3) (by decide +kernel) rfl rfl rfl (by decide +kernel)
set_option maxRecDepth 65536 in
theorem w_c44 : (Jvm.Cond.code ({ cls := "java/lang/StringUTF16", name := "coderFromArrayLen", desc := "([BI)B" } : Jvm.MethodName) jdk_52_method_15_code (2 : Nat) (Option.some Jvm.ClassFile.FieldType.byte)).before args0 about1 = true := code_word (m := ⟨21, 1⟩) (meth := k21m1) (c := k21c1) (by decide +kernel) rfl rfl rfl (by decide +kernel)
def codes1 : List Jvm.Cond := [Jvm.Cond.code x code maxLocals ret, Jvm.Cond.code ({ cls := "java/lang/String", name := "<init>", desc := "([C)V" } : Jvm.MethodName) jdk_42_method_3_code (2 : Nat) (Option.none : Option Jvm.ClassFile.FieldType), Jvm.Cond.code ({ cls := "java/lang/String", name := "<init>", desc := "([CIILjava/lang/Void;)V" } : Jvm.MethodName) jdk_42_method_149_code (6 : Nat) (Option.none : Option Jvm.ClassFile.FieldType), Jvm.Cond.code ({ cls := "java/lang/Object", name := "<init>", desc := "()V" } : Jvm.MethodName) object_method_1_code (1 : Nat) (Option.none : Option Jvm.ClassFile.FieldType), Jvm.Cond.code ({ cls := "com/example/veneer/veneer/VeneerException", name := "unbound", desc := "(Ljava/lang/String;)Lcom/example/veneer/veneer/VeneerException;" } : Jvm.MethodName) prog_4_method_3_code (1 : Nat) (Option.some (Jvm.ClassFile.FieldType.object "com/example/veneer/veneer/VeneerException")), Jvm.Cond.code ({ cls := "java/lang/StringBuilder", name := "<init>", desc := "()V" } : Jvm.MethodName) jdk_67_method_1_code (1 : Nat) (Option.none : Option Jvm.ClassFile.FieldType), Jvm.Cond.code ({ cls := "java/lang/AbstractStringBuilder", name := "<init>", desc := "(I)V" } : Jvm.MethodName) jdk_68_method_2_code (2 : Nat) (Option.none : Option Jvm.ClassFile.FieldType), Jvm.Cond.code ({ cls := "java/lang/StringBuilder", name := "append", desc := "(Ljava/lang/String;)Ljava/lang/StringBuilder;" } : Jvm.MethodName) jdk_67_method_7_code (2 : Nat) (Option.some (Jvm.ClassFile.FieldType.object "java/lang/StringBuilder")), Jvm.Cond.code ({ cls := "java/lang/AbstractStringBuilder", name := "append", desc := "(Ljava/lang/String;)Ljava/lang/AbstractStringBuilder;" } : Jvm.MethodName) jdk_68_method_22_code (3 : Nat) (Option.some (Jvm.ClassFile.FieldType.object "java/lang/AbstractStringBuilder")), Jvm.Cond.code ({ cls := "java/lang/String", name := "length", desc := "()I" } : Jvm.MethodName) jdk_42_method_54_code (1 : Nat) (Option.some Jvm.ClassFile.FieldType.int), Jvm.Cond.code ({ cls := "java/lang/String", name := "coder", desc := "()B" } : Jvm.MethodName) jdk_42_method_152_code (1 : Nat) (Option.some Jvm.ClassFile.FieldType.byte), Jvm.Cond.code ({ cls := "java/lang/AbstractStringBuilder", name := "ensureCapacityInternal", desc := "(I)V" } : Jvm.MethodName) jdk_68_method_9_code (3 : Nat) (Option.none : Option Jvm.ClassFile.FieldType), Jvm.Cond.code ({ cls := "java/lang/AbstractStringBuilder", name := "putStringAt", desc := "(ILjava/lang/String;)V" } : Jvm.MethodName) jdk_68_method_73_code (3 : Nat) (Option.none : Option Jvm.ClassFile.FieldType), Jvm.Cond.code ({ cls := "java/lang/AbstractStringBuilder", name := "inflateIfNeededFor", desc := "(Ljava/lang/String;)V" } : Jvm.MethodName) jdk_68_method_71_code (2 : Nat) (Option.none : Option Jvm.ClassFile.FieldType), Jvm.Cond.code ({ cls := "java/lang/String", name := "getBytes", desc := "([BIB)V" } : Jvm.MethodName) jdk_42_method_147_code (4 : Nat) (Option.none : Option Jvm.ClassFile.FieldType), Jvm.Cond.code ({ cls := "java/lang/AbstractStringBuilder", name := "newCapacity", desc := "(I)I" } : Jvm.MethodName) jdk_68_method_10_code (6 : Nat) (Option.some Jvm.ClassFile.FieldType.int), Jvm.Cond.code ({ cls := "jdk/internal/util/ArraysSupport", name := "newLength", desc := "(III)I" } : Jvm.MethodName) jdk_48_method_27_code (4 : Nat) (Option.some Jvm.ClassFile.FieldType.int), Jvm.Cond.code ({ cls := "java/lang/Math", name := "max", desc := "(II)I" } : Jvm.MethodName) jdk_29_method_65_code (2 : Nat) (Option.some Jvm.ClassFile.FieldType.int), Jvm.Cond.code ({ cls := "java/util/Arrays", name := "copyOf", desc := "([BI)[B" } : Jvm.MethodName) jdk_65_method_121_code (3 : Nat) (Option.some (Jvm.ClassFile.FieldType.array Jvm.ClassFile.FieldType.byte)), Jvm.Cond.code ({ cls := "java/lang/Math", name := "min", desc := "(II)I" } : Jvm.MethodName) jdk_29_method_69_code (2 : Nat) (Option.some Jvm.ClassFile.FieldType.int), Jvm.Cond.code ({ cls := "java/lang/StringBuilder", name := "toString", desc := "()Ljava/lang/String;" } : Jvm.MethodName) jdk_67_method_42_code (1 : Nat) (Option.some (Jvm.ClassFile.FieldType.object "java/lang/String")), Jvm.Cond.code ({ cls := "java/lang/String", name := "<init>", desc := "(Ljava/lang/StringBuilder;)V" } : Jvm.MethodName) jdk_42_method_53_code (2 : Nat) (Option.none : Option Jvm.ClassFile.FieldType), Jvm.Cond.code ({ cls := "java/lang/String", name := "<init>", desc := "(Ljava/lang/AbstractStringBuilder;Ljava/lang/Void;)V" } : Jvm.MethodName) jdk_42_method_150_code (5 : Nat) (Option.none : Option Jvm.ClassFile.FieldType), Jvm.Cond.code ({ cls := "java/lang/AbstractStringBuilder", name := "getValue", desc := "()[B" } : Jvm.MethodName) jdk_68_method_64_code (1 : Nat) (Option.some (Jvm.ClassFile.FieldType.array Jvm.ClassFile.FieldType.byte)), Jvm.Cond.code ({ cls := "java/lang/StringBuilder", name := "length", desc := "()I" } : Jvm.MethodName) jdk_67_method_93_code (1 : Nat) (Option.some Jvm.ClassFile.FieldType.int), Jvm.Cond.code ({ cls := "java/lang/AbstractStringBuilder", name := "length", desc := "()I" } : Jvm.MethodName) jdk_68_method_6_code (1 : Nat) (Option.some Jvm.ClassFile.FieldType.int), Jvm.Cond.code ({ cls := "java/lang/AbstractStringBuilder", name := "isLatin1", desc := "()Z" } : Jvm.MethodName) jdk_68_method_68_code (1 : Nat) (Option.some Jvm.ClassFile.FieldType.boolean), Jvm.Cond.code ({ cls := "java/util/Arrays", name := "copyOfRange", desc := "([BII)[B" } : Jvm.MethodName) jdk_65_method_132_code (3 : Nat) (Option.some (Jvm.ClassFile.FieldType.array Jvm.ClassFile.FieldType.byte)), Jvm.Cond.code ({ cls := "java/util/Arrays", name := "copyOfRangeByte", desc := "([BII)[B" } : Jvm.MethodName) jdk_65_method_133_code (5 : Nat) (Option.some (Jvm.ClassFile.FieldType.array Jvm.ClassFile.FieldType.byte)), Jvm.Cond.code ({ cls := "java/util/Arrays", name := "checkLength", desc := "(II)V" } : Jvm.MethodName) jdk_65_method_131_code (2 : Nat) (Option.none : Option Jvm.ClassFile.FieldType), Jvm.Cond.code ({ cls := "com/example/veneer/veneer/VeneerException", name := "<init>", desc := "(Ljava/lang/String;)V" } : Jvm.MethodName) prog_4_method_1_code (2 : Nat) (Option.none : Option Jvm.ClassFile.FieldType), Jvm.Cond.code ({ cls := "java/lang/RuntimeException", name := "<init>", desc := "(Ljava/lang/String;)V" } : Jvm.MethodName) jdk_58_method_2_code (2 : Nat) (Option.none : Option Jvm.ClassFile.FieldType), Jvm.Cond.code ({ cls := "java/lang/Exception", name := "<init>", desc := "(Ljava/lang/String;)V" } : Jvm.MethodName) jdk_59_method_2_code (2 : Nat) (Option.none : Option Jvm.ClassFile.FieldType), Jvm.Cond.code ({ cls := "java/lang/Throwable", name := "<init>", desc := "(Ljava/lang/String;)V" } : Jvm.MethodName) jdk_78_method_2_code (2 : Nat) (Option.none : Option Jvm.ClassFile.FieldType), Jvm.Cond.code ({ cls := "java/lang/Throwable", name := "<init>", desc := "()V" } : Jvm.MethodName) jdk_78_method_1_code (1 : Nat) (Option.none : Option Jvm.ClassFile.FieldType), Jvm.Cond.code ({ cls := "java/lang/Throwable", name := "getMessage", desc := "()Ljava/lang/String;" } : Jvm.MethodName) jdk_78_method_6_code (1 : Nat) (Option.some (Jvm.ClassFile.FieldType.object "java/lang/String")), Jvm.Cond.code ({ cls := "com/example/veneer/veneer/VeneerExceptionUnboundPinLaw", name := "tail", desc := "(Ljava/lang/String;I)Z" } : Jvm.MethodName) method_3_code (3 : Nat) (Option.some Jvm.ClassFile.FieldType.boolean), Jvm.Cond.code ({ cls := "java/lang/String", name := "charAt", desc := "(I)C" } : Jvm.MethodName) jdk_42_method_56_code (2 : Nat) (Option.some Jvm.ClassFile.FieldType.char), Jvm.Cond.code ({ cls := "java/lang/String", name := "isLatin1", desc := "()Z" } : Jvm.MethodName) jdk_42_method_154_code (1 : Nat) (Option.some Jvm.ClassFile.FieldType.boolean), Jvm.Cond.code ({ cls := "java/lang/StringLatin1", name := "charAt", desc := "([BI)C" } : Jvm.MethodName) jdk_43_method_2_code (2 : Nat) (Option.some Jvm.ClassFile.FieldType.char), Jvm.Cond.code ({ cls := "java/lang/String", name := "checkIndex", desc := "(II)V" } : Jvm.MethodName) jdk_42_method_155_code (2 : Nat) (Option.none : Option Jvm.ClassFile.FieldType), Jvm.Cond.code ({ cls := "jdk/internal/util/Preconditions", name := "checkIndex", desc := "(IILjava/util/function/BiFunction;)I" } : Jvm.MethodName) jdk_41_method_11_code (3 : Nat) (Option.some Jvm.ClassFile.FieldType.int), Jvm.Cond.code ({ cls := "java/lang/StringUTF16", name := "compress", desc := "([CII)[B" } : Jvm.MethodName) jdk_52_method_16_code (6 : Nat) (Option.some (Jvm.ClassFile.FieldType.array Jvm.ClassFile.FieldType.byte)), Jvm.Cond.code ({ cls := "java/lang/StringUTF16", name := "compress", desc := "([CI[BII)I" } : Jvm.MethodName) jdk_52_method_21_code (7 : Nat) (Option.some Jvm.ClassFile.FieldType.int), Jvm.Cond.code ({ cls := "java/lang/StringUTF16", name := "coderFromArrayLen", desc := "([BI)B" } : Jvm.MethodName) jdk_52_method_15_code (2 : Nat) (Option.some Jvm.ClassFile.FieldType.byte)]
set_option maxRecDepth 65536 in
theorem codes_eq : words1.filter isCode = codes1 := rfl
theorem w_codes : ∀ c ∈ words1.filter isCode, c.before args0 about1 = true := by
  rw [codes_eq]
  intro c hc
  simp only [codes1, List.mem_cons, List.not_mem_nil, or_false] at hc
  rcases hc with rfl | rfl | rfl | rfl | rfl | rfl | rfl | rfl | rfl | rfl | rfl | rfl | rfl | rfl | rfl | rfl | rfl | rfl | rfl | rfl | rfl | rfl | rfl | rfl | rfl | rfl | rfl | rfl | rfl | rfl | rfl | rfl | rfl | rfl | rfl | rfl | rfl | rfl | rfl | rfl | rfl | rfl | rfl | rfl | rfl
  · exact w_c0
  · exact w_c1
  · exact w_c2
  · exact w_c3
  · exact w_c4
  · exact w_c5
  · exact w_c6
  · exact w_c7
  · exact w_c8
  · exact w_c9
  · exact w_c10
  · exact w_c11
  · exact w_c12
  · exact w_c13
  · exact w_c14
  · exact w_c15
  · exact w_c16
  · exact w_c17
  · exact w_c18
  · exact w_c19
  · exact w_c20
  · exact w_c21
  · exact w_c22
  · exact w_c23
  · exact w_c24
  · exact w_c25
  · exact w_c26
  · exact w_c27
  · exact w_c28
  · exact w_c29
  · exact w_c30
  · exact w_c31
  · exact w_c32
  · exact w_c33
  · exact w_c34
  · exact w_c35
  · exact w_c36
  · exact w_c37
  · exact w_c38
  · exact w_c39
  · exact w_c40
  · exact w_c41
  · exact w_c42
  · exact w_c43
  · exact w_c44
set_option maxRecDepth 65536 in
theorem w_t1 : (words1.take 24).all (fun c => isCode c || c.before args0 about1) = true := by decide +kernel
set_option maxRecDepth 65536 in
theorem w_t2 : ((words1.drop 24).take 24).all (fun c => isCode c || c.before args0 about1) = true := by decide +kernel
set_option maxRecDepth 65536 in
theorem w_t3 : (((words1.drop 24).drop 24).take 24).all (fun c => isCode c || c.before args0 about1) = true := by decide +kernel
set_option maxRecDepth 65536 in
theorem w_t4 : ((((words1.drop 24).drop 24).drop 24).take 24).all (fun c => isCode c || c.before args0 about1) = true := by decide +kernel
set_option maxRecDepth 65536 in
theorem w_t5 : (((((words1.drop 24).drop 24).drop 24).drop 24).take 24).all (fun c => isCode c || c.before args0 about1) = true := by decide +kernel
set_option maxRecDepth 65536 in
theorem w_t6 : ((((((words1.drop 24).drop 24).drop 24).drop 24).drop 24).take 24).all (fun c => isCode c || c.before args0 about1) = true := by decide +kernel
set_option maxRecDepth 65536 in
theorem w_t7 : (((((((words1.drop 24).drop 24).drop 24).drop 24).drop 24).drop 24).take 24).all (fun c => isCode c || c.before args0 about1) = true := by decide +kernel
set_option maxRecDepth 65536 in
theorem w_t8 : ((((((((words1.drop 24).drop 24).drop 24).drop 24).drop 24).drop 24).drop 24).take 24).all (fun c => isCode c || c.before args0 about1) = true := by decide +kernel
set_option maxRecDepth 65536 in
theorem w_t9 : (((((((((words1.drop 24).drop 24).drop 24).drop 24).drop 24).drop 24).drop 24).drop 24).take 24).all (fun c => isCode c || c.before args0 about1) = true := by decide +kernel
set_option maxRecDepth 65536 in
theorem w_t10 : ((((((((((words1.drop 24).drop 24).drop 24).drop 24).drop 24).drop 24).drop 24).drop 24).drop 24).take 24).all (fun c => isCode c || c.before args0 about1) = true := by decide +kernel
set_option maxRecDepth 65536 in
theorem w_t11 : (((((((((((words1.drop 24).drop 24).drop 24).drop 24).drop 24).drop 24).drop 24).drop 24).drop 24).drop 24).take 24).all (fun c => isCode c || c.before args0 about1) = true := by decide +kernel
set_option maxRecDepth 65536 in
theorem w_t12 : (((((((((((words1.drop 24).drop 24).drop 24).drop 24).drop 24).drop 24).drop 24).drop 24).drop 24).drop 24).drop 24).all (fun c => isCode c || c.before args0 about1) = true := by decide +kernel
theorem w_tables : (allAtoms (Jvm.Cond.code x code maxLocals ret :: tables_1)).before args0 about1 = true := by
  rw [allAtoms_all]
  show words1.all (fun c => c.before args0 about1) = true
  refine all_split ?_ w_codes
  rw [← List.take_append_drop 24 words1, List.all_append, w_t1, ← List.take_append_drop 24 (words1.drop 24), List.all_append, w_t2, ← List.take_append_drop 24 ((words1.drop 24).drop 24), List.all_append, w_t3, ← List.take_append_drop 24 (((words1.drop 24).drop 24).drop 24), List.all_append, w_t4, ← List.take_append_drop 24 ((((words1.drop 24).drop 24).drop 24).drop 24), List.all_append, w_t5, ← List.take_append_drop 24 (((((words1.drop 24).drop 24).drop 24).drop 24).drop 24), List.all_append, w_t6, ← List.take_append_drop 24 ((((((words1.drop 24).drop 24).drop 24).drop 24).drop 24).drop 24), List.all_append, w_t7, ← List.take_append_drop 24 (((((((words1.drop 24).drop 24).drop 24).drop 24).drop 24).drop 24).drop 24), List.all_append, w_t8, ← List.take_append_drop 24 ((((((((words1.drop 24).drop 24).drop 24).drop 24).drop 24).drop 24).drop 24).drop 24), List.all_append, w_t9, ← List.take_append_drop 24 (((((((((words1.drop 24).drop 24).drop 24).drop 24).drop 24).drop 24).drop 24).drop 24).drop 24), List.all_append, w_t10, ← List.take_append_drop 24 ((((((((((words1.drop 24).drop 24).drop 24).drop 24).drop 24).drop 24).drop 24).drop 24).drop 24).drop 24), List.all_append, w_t11, w_t12]
  rfl
set_option maxRecDepth 65536 in
theorem w_rest : rest_1_c.before args0 about1 = true := by decide +kernel
set_option maxRecDepth 65536 in
theorem w_case : (Jvm.Cond.and given_1 narrow_1).before args0 about1 = true := by decide +kernel
set_option maxRecDepth 65536 in
theorem w_consts : constsHeld consts_1 about1 := Jvm.Lit.constsHeldB_iff.mp (by decide +kernel)
theorem w_applies : (headSpec (Jvm.Cond.code x code maxLocals ret :: tables_1) room_1).applies x e0.platform about1 = true :=
  (Spec.applies_iff w_frames).mpr ⟨w_running, w_runnable, w_alone, w_named, w_hears, w_ripe, w_room, w_tables⟩
theorem atStart : AtStart classFile x code maxLocals ret World_1 tables_1 room_1 Calls_1 rest_1 Pre_1 launch0 p0 e0 about1 theMethod args0 below0 :=
  ⟨lists_1, trivial, launch0.admits_env _ _ _, launch0.least_env, fairChoices_fair.cas, fairChoices_fair.clock, w_frames, w_args, w_heap, w_applies, ⟨(by decide +kernel : framesKnown about1 = true), ⟨(by decide +kernel : tablesKnown about1 = true), ⟨w_consts, trivial⟩⟩⟩, w_rest, w_case⟩
end start1
theorem witness_1 : WitnessClaimed_1 := ⟨start1.p0, start1.e0, start1.about1, start1.theMethod, start1.args0, start1.below0, start1.atStart⟩
end Jvm.Pilot.@@N@@
