import JvmDerived
import JvmDerived.Pilot.@@N@@Statement
import JvmDerived.Pilot.@@N@@Code
set_option linter.unusedVariables false
set_option linter.unusedSimpArgs false
namespace Jvm.Pilot.@@N@@
/-- the frame is the narrow one -/
def NW : Bool := false
end Jvm.Pilot.@@N@@
/- laws to paste: Road.backV, Road.codOf, Road.lenW, Road.chN (cut by pick.py; bodies as the Statement names them) -/
namespace Jvm.Pilot.@@N@@
namespace StrChars
open Jvm Sem ClassFile Op Lib Jvm.Stand Jvm.Free.XT Jvm.Free.ALB Jvm.Free.JM Jvm.Free
open Jvm.Lib.Cold (StaticIs)
/-- a char array whose places are chars -/
def Ch (a : Addr) (A : Cell) (U : State) : Prop := Arr .char a A U ∧ Typed .char A
theorem Ch.mv {a : Addr} {A : Cell} {U U' : State} (h : Ch a A U) (hal : U.vm.Alike U'.vm) (hh : U'.heap = U.heap) : Ch a A U' := ⟨h.1.mv hal hh, h.2⟩
theorem Ch.keep {a : Addr} {A : Cell} {U U' : State} (h : Ch a A U) (hal : U.vm.Alike U'.vm) (hk : U'.heap[a]? = some A) : Ch a A U' := ⟨h.1.keep hal hk, h.2⟩
/-- what place i of a char[]'s cell holds -/
def cv (A : Cell) (i : Nat) : Int32 := match A.slots[i]? with | some (.int x) => x | _ => 0
theorem Ch.get {a : Addr} {A : Cell} {U : State} (h : Ch a A U) {i : Nat} (hi : i < A.slots.size) : A.slots[i]? = some (.int (cv A i)) := by
  have e := Array.getElem?_eq_getElem hi
  have f := h.2 i _ e
  unfold cv; rw [e]
  generalize A.slots[i] = v at f
  cases v <;> simp [fits] at f ⊢
/-- the byte that i2b leaves of a char -/
def lo8 (x : Int32) : Int32 := x.toInt8.toInt32
theorem fits_lo8 (y : Int32) : fits .byte (.int (lo8 y)) = true := by
  have h1 := y.toInt8.le_toInt
  have h2 := y.toInt8.toInt_lt
  simp only [lo8, fits, Bool.and_eq_true, decide_eq_true_eq, Int32.le_iff_toInt_le, Int8.toInt_toInt32, show (-128 : Int32).toInt = -128 from by decide, show (127 : Int32).toInt = 127 from by decide]
  omega
/-- A' is A but that each place j of lo .. hi - 1 holds f j -/
def Laid (A A' : Cell) (lo hi : Nat) (f : Nat → Value) : Prop := A'.cls = A.cls ∧ A'.vm = A.vm ∧ A'.slots.size = A.slots.size ∧ ∀ i, A'.slots[i]? = if lo ≤ i ∧ i < hi then some (f i) else A.slots[i]?
theorem Laid.zero (A : Cell) (lo : Nat) (f : Nat → Value) : Laid A A lo (lo + 0) f := ⟨rfl, rfl, rfl, fun i => by rw [if_neg (by omega)]⟩
theorem Laid.step {A Ak : Cell} {lo k : Nat} {f : Nat → Value} {v : Value} (h : Laid A Ak lo k f) (hlo : lo ≤ k) (hk : k < Ak.slots.size) (hv : v = f k) : Laid A (Ak.setSlot k v) lo (k + 1) f := by
  refine ⟨h.1, h.2.1, by simpa [Cell.setSlot] using h.2.2.1, fun i => ?_⟩
  by_cases e : k = i
  · subst e; rw [Cell.slots_setSlot_self v hk, if_pos (by omega), hv]
  · rw [Cell.slots_setSlot_ne v e, h.2.2.2 i]
    by_cases q : lo ≤ i ∧ i < k
    · rw [if_pos q, if_pos (by omega)]
    · rw [if_neg q, if_neg (by omega)]
def U16 : String := "java/lang/StringUTF16"
namespace Cmp5
def yN : MethodName := ⟨"java/lang/StringUTF16", "compress", "([CI[BII)I"⟩
abbrev yB : ByteArray := jdk_52_method_21_code
theorem d0 : decode yB 0 = .ok (.iconst 0, 1) := by decide +kernel
theorem d1 : decode yB 1 = .ok (.istore 5, 2) := by decide +kernel
theorem d3 : decode yB 3 = .ok (.iload 5, 2) := by decide +kernel
theorem d5 : decode yB 5 = .ok (.iload 4, 2) := by decide +kernel
theorem d7 : decode yB 7 = .ok (.if_icmp (.ge) 37, 3) := by decide +kernel
theorem d10 : decode yB 10 = .ok (.aload_n 0, 1) := by decide +kernel
theorem d11 : decode yB 11 = .ok (.iload_n 1, 1) := by decide +kernel
theorem d12 : decode yB 12 = .ok (.caload, 1) := by decide +kernel
theorem d13 : decode yB 13 = .ok (.istore 6, 2) := by decide +kernel
theorem d15 : decode yB 15 = .ok (.iload 6, 2) := by decide +kernel
theorem d17 : decode yB 17 = .ok (.sipush 255, 3) := by decide +kernel
theorem d20 : decode yB 20 = .ok (.if_icmp (.le) 6, 3) := by decide +kernel
theorem d26 : decode yB 26 = .ok (.aload_n 2, 1) := by decide +kernel
theorem d27 : decode yB 27 = .ok (.iload_n 3, 1) := by decide +kernel
theorem d28 : decode yB 28 = .ok (.iload 6, 2) := by decide +kernel
theorem d30 : decode yB 30 = .ok (.i2b, 1) := by decide +kernel
theorem d31 : decode yB 31 = .ok (.bastore, 1) := by decide +kernel
theorem d32 : decode yB 32 = .ok (.iinc 1 1, 3) := by decide +kernel
theorem d35 : decode yB 35 = .ok (.iinc 3 1, 3) := by decide +kernel
theorem d38 : decode yB 38 = .ok (.iinc 5 1, 3) := by decide +kernel
theorem d41 : decode yB 41 = .ok (.goto (-38), 3) := by decide +kernel
theorem d44 : decode yB 44 = .ok (.iload 4, 2) := by decide +kernel
theorem d46 : decode yB 46 = .ok (.ireturn, 1) := by decide +kernel
def site : List Cond := []
def tab : Cond := tabOf yN yB 7 (some .int) site
def P (b : Addr) (A : Cell) (d : Addr) (B : Cell) (o q len : Nat) (args : Array Value) (s : State) : Prop := args = #[.ref b, .int (Int32.ofNat o), .ref d, .int (Int32.ofNat q), .int (Int32.ofNat len)] ∧ Ch b A s ∧ Arr .byte d B s ∧ b ≠ d ∧ o + len ≤ A.slots.size ∧ q + len ≤ B.slots.size ∧ ∀ i, i < len → ¬ 255 < cv A (o + i)
def E (b : Addr) (A : Cell) (d : Addr) (B : Cell) (o q len : Nat) (r : Option Value) (s u : State) : Prop := r = some (.int (Int32.ofNat len)) ∧ ∃ B', Put d B' s u ∧ Laid B B' q (q + len) (fun j => Value.int (lo8 (cv A (o + (j - q)))))
/-- no char of the range above 255: len; the places written hold each char's low byte -/
theorem law (l : Launch) (b : Addr) (A : Cell) (d : Addr) (B : Cell) (o q len : Nat) : Law l yN 5 5 0 0 yB 7 (some .int) site (P b A d B o q len) (E b A d B o q len) (copyLocs d q len) 0 0 := by
  refine Law.of_walk (plainFor_of_name (by decide +kernel)) (by decide +kernel) (by decide +kernel) (by decide) (fun _ _ h => by rw [h.1]; rfl) (fun _ U U' hal hh h => ⟨h.1, h.2.1.mv hal hh, h.2.2.1.mv hal hh, h.2.2.2⟩) (fun r U U' V V' h1 hal h2 h => ⟨h.1, h.2.elim fun B' q => ⟨B', q.1.mv h1 h2, q.2⟩⟩) ?_
  intro p e s m args below meth c s₁ X0 hexec hbytes hml hret hlk hnm hown hh0 W hP
  obtain ⟨rfl, hA, hB, hne, l1, l2, hp⟩ := hP
  have c1 : Steps p.tables e below (s₁.setTop (entryFrame m #[.ref b, .int (Int32.ofNat o), .ref d, .int (Int32.ofNat q), .int (Int32.ofNat len)] 7)) (s₁.setTop (mkF m 0 #[.val (.ref b), .val (.int (Int32.ofNat o)), .val (.ref d), .val (.int (Int32.ofNat q)), .val (.int (Int32.ofNat len)), .unset, .unset] [])) := entry rfl
  have hA0 := hA.1.mv X0.warmed.alike hh0
  have hB0 := hB.mv X0.warmed.alike hh0
  have a31 := hA.1.2.2.2
  have c2 : Steps p.tables e below (s₁.setTop (entryFrame m #[.ref b, .int (Int32.ofNat o), .ref d, .int (Int32.ofNat q), .int (Int32.ofNat len)] 7)) (s₁.setTop (mkF m 3 #[.val (.ref b), .val (.int (Int32.ofNat o)), .val (.ref d), .val (.int (Int32.ofNat q)), .val (.int (Int32.ofNat len)), .val (.int 0), .unset] [])) := c1.trans (by
    refine iconstV X0.here hexec rfl 0 (hb hbytes d0) (by decide) ?_
    refine XS.istore X0.here hexec rfl (hb hbytes d1) rfl rfl ?_
    exact Steps.refl _)
  have loop : ∀ (r i : Nat), i + r = len → ∀ (z : Slot), (z = .unset ∨ ∃ w, z = .val w ∧ w.category = 1) → ∀ (Tl : State) (Bk : Cell), Stand p l e { frames := 0, locals := 0, cells := 0, slots := 0 } s m #[.ref b, .int (Int32.ofNat o), .ref d, .int (Int32.ofNat q), .int (Int32.ofNat len)] below meth c Tl ([] ++ copyLocs d q i) 0 0 → Put d Bk s₁ Tl → Laid B Bk q (q + i) (fun j => Value.int (lo8 (cv A (o + (j - q))))) →
      Steps p.tables e below (s₁.setTop (entryFrame m #[.ref b, .int (Int32.ofNat o), .ref d, .int (Int32.ofNat q), .int (Int32.ofNat len)] 7)) (Tl.setTop (mkF m 3 #[.val (.ref b), .val (.int (Int32.ofNat (o + i))), .val (.ref d), .val (.int (Int32.ofNat (q + i))), .val (.int (Int32.ofNat len)), .val (.int (Int32.ofNat i)), z] [])) → ∃ (T' : State) (B' : Cell) (z' : Slot), Stand p l e { frames := 0, locals := 0, cells := 0, slots := 0 } s m #[.ref b, .int (Int32.ofNat o), .ref d, .int (Int32.ofNat q), .int (Int32.ofNat len)] below meth c T' ([] ++ copyLocs d q len) 0 0 ∧ Put d B' s₁ T' ∧ Laid B B' q (q + len) (fun j => Value.int (lo8 (cv A (o + (j - q))))) ∧
      Steps p.tables e below (s₁.setTop (entryFrame m #[.ref b, .int (Int32.ofNat o), .ref d, .int (Int32.ofNat q), .int (Int32.ofNat len)] 7)) (T'.setTop (mkF m 3 #[.val (.ref b), .val (.int (Int32.ofNat (o + len))), .val (.ref d), .val (.int (Int32.ofNat (q + len))), .val (.int (Int32.ofNat len)), .val (.int (Int32.ofNat len)), z'] [])) := by
    intro r
    induction r with
    | zero =>
      intro i hi z hz Tl Bk Xl pl fl cl
      have hil : i = len := by omega
      rw [hil] at Xl fl cl
      exact ⟨Tl, Bk, z, Xl, pl, fl, cl⟩
    | succ r ih =>
      intro i hi z hz Tl Bk Xl pl fl cl
      have all := X0.warmed.alike.symm.trans Xl.warmed.alike
      have hAl := hA0.keep all (pl.other hne hA0.1)
      have hBk := hB0.like all pl.1 fl.1 fl.2.1 fl.2.2.1
      have hlt : q + i < Bk.slots.size := by rw [fl.2.2.1]; omega
      have c3 : Steps p.tables e below (s₁.setTop (entryFrame m #[.ref b, .int (Int32.ofNat o), .ref d, .int (Int32.ofNat q), .int (Int32.ofNat len)] 7)) (Tl.setTop (mkF m 12 #[.val (.ref b), .val (.int (Int32.ofNat (o + i))), .val (.ref d), .val (.int (Int32.ofNat (q + i))), .val (.int (Int32.ofNat len)), .val (.int (Int32.ofNat i)), z] [.int (Int32.ofNat (o + i)), .ref b])) := cl.trans (by
        refine XS.iload Xl.here hexec rfl (hb hbytes d3) rfl ?_
        refine XS.iload Xl.here hexec rfl (hb hbytes d5) rfl ?_
        refine XS.icmpNo Xl.here hexec rfl (hb hbytes d7) rfl (ii_ge_f (lt32 (by omega) (by omega))) ?_
        refine XS.aloadN Xl.here hexec rfl (hb hbytes d10) rfl rfl ?_
        refine XS.iloadN Xl.here hexec rfl (hb hbytes d11) rfl ?_
        exact Steps.refl _)
      have c4 : Steps p.tables e below (s₁.setTop (entryFrame m #[.ref b, .int (Int32.ofNat o), .ref d, .int (Int32.ofNat q), .int (Int32.ofNat len)] 7)) (Tl.setTop (mkF m 13 #[.val (.ref b), .val (.int (Int32.ofNat (o + i))), .val (.ref d), .val (.int (Int32.ofNat (q + i))), .val (.int (Int32.ofNat len)), .val (.int (Int32.ofNat i)), z] [.int (cv A (o + i))])) := c3.trans (by
        refine Xl.aget hexec hAl rfl (hA.get (i := o + i) (by omega)) rfl rfl (hb hbytes d12) ?_
        exact Steps.refl _)
      have c5 : Steps p.tables e below (s₁.setTop (entryFrame m #[.ref b, .int (Int32.ofNat o), .ref d, .int (Int32.ofNat q), .int (Int32.ofNat len)] 7)) (Tl.setTop (mkF m 15 #[.val (.ref b), .val (.int (Int32.ofNat (o + i))), .val (.ref d), .val (.int (Int32.ofNat (q + i))), .val (.int (Int32.ofNat len)), .val (.int (Int32.ofNat i)), .val (.int (cv A (o + i)))] [])) := c4.trans (by
        refine XS.istoreS Xl.here hexec rfl (hb hbytes d13) rfl rfl hz ?_
        exact Steps.refl _)
      have c6 : Steps p.tables e below (s₁.setTop (entryFrame m #[.ref b, .int (Int32.ofNat o), .ref d, .int (Int32.ofNat q), .int (Int32.ofNat len)] 7)) (Tl.setTop (mkF m 31 #[.val (.ref b), .val (.int (Int32.ofNat (o + i))), .val (.ref d), .val (.int (Int32.ofNat (q + i))), .val (.int (Int32.ofNat len)), .val (.int (Int32.ofNat i)), .val (.int (cv A (o + i)))] [.int (lo8 (cv A (o + i))), .int (Int32.ofNat (q + i)), .ref d])) := c5.trans (by
        refine XS.iload Xl.here hexec rfl (hb hbytes d15) rfl ?_
        refine sipushV Xl.here hexec rfl 255 (hb hbytes d17) (by decide) ?_
        refine XS.icmpYes Xl.here hexec rfl (pc0 := 20) rfl (hb hbytes d20) rfl (ii_le_t (hp i (by omega))) (by decide) rfl ?_
        refine XS.aloadN Xl.here hexec rfl (hb hbytes d26) rfl rfl ?_
        refine XS.iloadN Xl.here hexec rfl (hb hbytes d27) rfl ?_
        refine XS.iload Xl.here hexec rfl (hb hbytes d28) rfl ?_
        refine i2b Xl.here hexec rfl (hb hbytes d30) rfl ?_
        exact Steps.refl _)
      obtain ⟨T7, X7, p7, st7⟩ := Xl.aput hexec hBk rfl hlt rfl (fits_lo8 (cv A (o + i))) (g := (mkF m 31 #[.val (.ref b), .val (.int (Int32.ofNat (o + i))), .val (.ref d), .val (.int (Int32.ofNat (q + i))), .val (.int (Int32.ofNat len)), .val (.int (Int32.ofNat i)), .val (.int (cv A (o + i)))] [.int (lo8 (cv A (o + i))), .int (Int32.ofNat (q + i)), .ref d])) rfl (rest := []) rfl (hb hbytes d31)
      have c8 : Steps p.tables e below (s₁.setTop (entryFrame m #[.ref b, .int (Int32.ofNat o), .ref d, .int (Int32.ofNat q), .int (Int32.ofNat len)] 7)) (T7.setTop (mkF m 32 #[.val (.ref b), .val (.int (Int32.ofNat (o + i))), .val (.ref d), .val (.int (Int32.ofNat (q + i))), .val (.int (Int32.ofNat len)), .val (.int (Int32.ofNat i)), .val (.int (cv A (o + i)))] [])) := c6.trans (st7 _ (Steps.refl _))
      have c9 : Steps p.tables e below (s₁.setTop (entryFrame m #[.ref b, .int (Int32.ofNat o), .ref d, .int (Int32.ofNat q), .int (Int32.ofNat len)] 7)) (T7.setTop (mkF m 3 #[.val (.ref b), .val (.int (Int32.ofNat (o + i) + 1)), .val (.ref d), .val (.int (Int32.ofNat (q + i) + 1)), .val (.int (Int32.ofNat len)), .val (.int (Int32.ofNat i + 1)), .val (.int (cv A (o + i)))] [])) := c8.trans (by
        refine iincV X7.here hexec rfl 1 (hb hbytes d32) (by decide) rfl rfl ?_
        refine iincV X7.here hexec rfl 1 (hb hbytes d35) (by decide) rfl rfl ?_
        refine iincV X7.here hexec rfl 1 (hb hbytes d38) (by decide) rfl rfl ?_
        refine XS.goto X7.here hexec rfl (pc0 := 41) rfl (hb hbytes d41) (by decide) rfl ?_
        exact Steps.refl _)
      have c10 : Steps p.tables e below (s₁.setTop (entryFrame m #[.ref b, .int (Int32.ofNat o), .ref d, .int (Int32.ofNat q), .int (Int32.ofNat len)] 7)) (T7.setTop (mkF m 3 #[.val (.ref b), .val (.int (Int32.ofNat (o + (i + 1)))), .val (.ref d), .val (.int (Int32.ofNat (q + (i + 1)))), .val (.int (Int32.ofNat len)), .val (.int (Int32.ofNat (i + 1))), .val (.int (cv A (o + i)))] [])) := by
        have := c9
        rw [succ32, succ32, succ32] at this
        exact this
      exact ih (i + 1) (by omega) _ (Or.inr ⟨_, rfl, rfl⟩) T7 _ (by rw [copyLocs_step, ← List.append_assoc]; exact X7) (pl.trans p7) (fl.step (by omega) hlt (by simp)) c10
  obtain ⟨T9, B9, z9, X9, p9, f9, g9⟩ := loop len 0 (by omega) .unset (Or.inl rfl) s₁ B (by simpa [copyLocs] using X0) ⟨hB0.1, fun _ _ => rfl, rfl⟩ (Laid.zero _ _ _) c2
  have c11 : Steps p.tables e below (s₁.setTop (entryFrame m #[.ref b, .int (Int32.ofNat o), .ref d, .int (Int32.ofNat q), .int (Int32.ofNat len)] 7)) (T9.setTop (mkF m 46 #[.val (.ref b), .val (.int (Int32.ofNat (o + len))), .val (.ref d), .val (.int (Int32.ofNat (q + len))), .val (.int (Int32.ofNat len)), .val (.int (Int32.ofNat len)), z9] [.int (Int32.ofNat len)])) := g9.trans (by
    refine XS.iload X9.here hexec rfl (hb hbytes d3) rfl ?_
    refine XS.iload X9.here hexec rfl (hb hbytes d5) rfl ?_
    refine XS.icmpYes X9.here hexec rfl (pc0 := 7) rfl (hb hbytes d7) rfl (ii_ge_t (nlt32 (by omega) (Nat.le_refl _))) (by decide) rfl ?_
    refine XS.iload X9.here hexec rfl (hb hbytes d44) rfl ?_
    exact Steps.refl _)
  exact ⟨T9, some (.int (Int32.ofNat len)), _, _, _, X9, by simp, rfl, rfl, (fun h => by cases h), ⟨rfl, B9, p9.from hh0, f9⟩, fun fs hl => c11.trans (X9.ireturnOut hexec hret rfl (Or.inl rfl) (hb hbytes d46) hl)⟩
end Cmp5
namespace Cmp3
def yN : MethodName := ⟨"java/lang/StringUTF16", "compress", "([CII)[B"⟩
abbrev yB : ByteArray := jdk_52_method_16_code
theorem d0 : decode yB 0 = .ok (.iload_n 2, 1) := by decide +kernel
theorem d1 : decode yB 1 = .ok (.newarray .byte, 2) := by decide +kernel
theorem d3 : decode yB 3 = .ok (.astore_n 3, 1) := by decide +kernel
theorem d4 : decode yB 4 = .ok (.aload_n 0, 1) := by decide +kernel
theorem d5 : decode yB 5 = .ok (.iload_n 1, 1) := by decide +kernel
theorem d6 : decode yB 6 = .ok (.aload_n 3, 1) := by decide +kernel
theorem d7 : decode yB 7 = .ok (.iconst 0, 1) := by decide +kernel
theorem d8 : decode yB 8 = .ok (.iload_n 2, 1) := by decide +kernel
theorem d9 : decode yB 9 = .ok (.invokestatic 115, 3) := by decide +kernel
theorem d12 : decode yB 12 = .ok (.istore 4, 2) := by decide +kernel
theorem d14 : decode yB 14 = .ok (.iload 4, 2) := by decide +kernel
theorem d16 : decode yB 16 = .ok (.iload_n 2, 1) := by decide +kernel
theorem d17 : decode yB 17 = .ok (.if_icmp (.eq) 40, 3) := by decide +kernel
theorem d57 : decode yB 57 = .ok (.aload_n 3, 1) := by decide +kernel
theorem d58 : decode yB 58 = .ok (.areturn, 1) := by decide +kernel
def site : List Cond := [.arrayClass .byte, Cmp5.tab] ++ staticW U16 115 Cmp5.yN
def tab : Cond := tabOf yN yB 6 (some (.array .byte)) site
def P (b : Addr) (A : Cell) (o len : Nat) (args : Array Value) (s : State) : Prop := args = #[.ref b, .int (Int32.ofNat o), .int (Int32.ofNat len)] ∧ Ch b A s ∧ o + len ≤ A.slots.size ∧ len ≤ 536870912 ∧ ∀ i, i < len → ¬ 255 < cv A (o + i)
def E (b : Addr) (A : Cell) (o len : Nat) (r : Option Value) (s u : State) : Prop := NewArr .byte "[B" len (fun j => .int (lo8 (cv A (o + j)))) r s u ∧ u.heap.size = s.heap.size + 1
/-- no char of the range above 255: a new byte[] of their low bytes -/
theorem law (l : Launch) (b : Addr) (A : Cell) (o len : Nat) : Law l yN 3 3 1 18 yB 6 (some (.array .byte)) site (P b A o len) (E b A o len) [] 1 len := by
  refine Law.of_walk (plainFor_of_name (by decide +kernel)) (by decide +kernel) (by decide +kernel) (by decide) (fun _ _ h => by rw [h.1]; rfl) (fun _ U U' hal hh h => ⟨h.1, h.2.1.mv hal hh, h.2.2⟩) (fun r U U' V V' h1 hal h2 h => ⟨NewArr.mv r U U' V V' h1 hal h2 h.1, by rw [h1, h2]; exact h.2⟩) ?_
  intro p e s m args below meth c s₁ X0 hexec hbytes hml hret hlk hnm hown hh0 W hP
  obtain ⟨rfl, hA, l1, l2, hp⟩ := hP
  have a31 := hA.1.2.2.2
  have c1 : Steps p.tables e below (s₁.setTop (entryFrame m #[.ref b, .int (Int32.ofNat o), .int (Int32.ofNat len)] 6)) (s₁.setTop (mkF m 0 #[.val (.ref b), .val (.int (Int32.ofNat o)), .val (.int (Int32.ofNat len)), .unset, .unset, .unset] [])) := entry rfl
  have c2 : Steps p.tables e below (s₁.setTop (entryFrame m #[.ref b, .int (Int32.ofNat o), .int (Int32.ofNat len)] 6)) (s₁.setTop (mkF m 1 #[.val (.ref b), .val (.int (Int32.ofNat o)), .val (.int (Int32.ofNat len)), .unset, .unset, .unset] [.int (Int32.ofNat len)])) := c1.trans (by
    refine XS.iloadN X0.here hexec rfl (hb hbytes d0) rfl ?_
    exact Steps.refl _)
  obtain ⟨T3, B3, X3, ba3, bs3, bv3, bh3, bf3, st3⟩ := X0.anew hexec (atype := .byte) (wk W (.arrayClass .byte)) rfl (by show len * 1 ≤ _; omega) (by omega) (g := (mkF m 1 #[.val (.ref b), .val (.int (Int32.ofNat o)), .val (.int (Int32.ofNat len)), .unset, .unset, .unset] [.int (Int32.ofNat len)])) rfl (hb hbytes d1) (rest := []) rfl (Nat.le_refl _) (by show 0 + len ≤ len; omega)
  rw [hh0] at ba3 st3
  have kp3 : XT.Kept s T3 := (XT.Kept.of_eq hh0).push bh3
  have hA3 := hA.keep X3.warmed.alike (kp3 _ _ hA.1.1)
  have hne : b ≠ s.heap.size := hA.1.ne
  have c4 : Steps p.tables e below (s₁.setTop (entryFrame m #[.ref b, .int (Int32.ofNat o), .int (Int32.ofNat len)] 6)) (T3.setTop (mkF m 3 #[.val (.ref b), .val (.int (Int32.ofNat o)), .val (.int (Int32.ofNat len)), .unset, .unset, .unset] [.ref s.heap.size])) := c2.trans (st3 _ (Steps.refl _))
  have c5 : Steps p.tables e below (s₁.setTop (entryFrame m #[.ref b, .int (Int32.ofNat o), .int (Int32.ofNat len)] 6)) (T3.setTop (mkF m 9 #[.val (.ref b), .val (.int (Int32.ofNat o)), .val (.int (Int32.ofNat len)), .val (.ref s.heap.size), .unset, .unset] [.int (Int32.ofNat len), .int 0, .ref s.heap.size, .int (Int32.ofNat o), .ref b])) := c4.trans (by
    refine XS.astoreN X3.here hexec rfl (hb hbytes d3) rfl rfl rfl ?_
    refine XS.aloadN X3.here hexec rfl (hb hbytes d4) rfl rfl ?_
    refine XS.iloadN X3.here hexec rfl (hb hbytes d5) rfl ?_
    refine XS.aloadN X3.here hexec rfl (hb hbytes d6) rfl rfl ?_
    refine iconstV X3.here hexec rfl 0 (hb hbytes d7) (by decide) ?_
    refine XS.iloadN X3.here hexec rfl (hb hbytes d8) rfl ?_
    exact Steps.refl _)
  obtain ⟨v6, T6, X6, E6, g6⟩ := X3.callS hexec (Cmp5.law l b A s.heap.size B3 o 0 len) hown (wks W (staticW U16 115 Cmp5.yN)) (wk W Cmp5.tab) (W := 0) (Nat.le_of_ble_eq_true rfl) (Nat.le_of_ble_eq_true rfl) (Nat.le_refl _) (by show 0 + len + 0 ≤ len; omega) (g := (mkF m 9 #[.val (.ref b), .val (.int (Int32.ofNat o)), .val (.int (Int32.ofNat len)), .val (.ref s.heap.size), .unset, .unset] [.int (Int32.ofNat len), .int (Int32.ofNat 0), .ref s.heap.size, .int (Int32.ofNat o), .ref b])) rfl (by rw [hml]; rfl) c5 (argsL := [.ref b, .int (Int32.ofNat o), .ref s.heap.size, .int (Int32.ofNat 0), .int (Int32.ofNat len)]) (rest := []) rfl rfl (by show 2 * 0 + 0 ≤ _; decide) (hb hbytes d9) (⟨rfl, hA3, ba3, hne, l1, by rw [bs3]; simp, hp⟩)
  obtain ⟨rfl, B6, p6, f6⟩ := E6
  have c7 : Steps p.tables e below (s₁.setTop (entryFrame m #[.ref b, .int (Int32.ofNat o), .int (Int32.ofNat len)] 6)) (T6.setTop (mkF m 12 #[.val (.ref b), .val (.int (Int32.ofNat o)), .val (.int (Int32.ofNat len)), .val (.ref s.heap.size), .unset, .unset] [.int (Int32.ofNat len)])) := g6
  have c8 : Steps p.tables e below (s₁.setTop (entryFrame m #[.ref b, .int (Int32.ofNat o), .int (Int32.ofNat len)] 6)) (T6.setTop (mkF m 58 #[.val (.ref b), .val (.int (Int32.ofNat o)), .val (.int (Int32.ofNat len)), .val (.ref s.heap.size), .val (.int (Int32.ofNat len)), .unset] [.ref s.heap.size])) := c7.trans (by
    refine XS.istore X6.here hexec rfl (hb hbytes d12) rfl rfl ?_
    refine XS.iload X6.here hexec rfl (hb hbytes d14) rfl ?_
    refine XS.iloadN X6.here hexec rfl (hb hbytes d16) rfl ?_
    refine XS.icmpYes X6.here hexec rfl (pc0 := 17) rfl (hb hbytes d17) rfl (ii_eq_t rfl) (by decide) rfl ?_
    refine XS.aloadN X6.here hexec rfl (hb hbytes d57) rfl rfl ?_
    exact Steps.refl _)
  have X8 := X6.wide (L' := []) (cells' := 1) (slots' := len) (fun x hx hlt => by
    simp only [List.nil_append, copyLocs, List.mem_map, List.mem_range] at hx
    obtain ⟨i, -, rfl⟩ := hx
    exact absurd hlt (Nat.lt_irrefl _)) (Nat.le_refl _) (by omega)
  exact ⟨T6, some (.ref s.heap.size), _, _, _, X8, rfl, rfl, rfl, (fun h => by cases h), ⟨⟨rfl, B6, ba3.like (X3.warmed.alike.symm.trans X6.warmed.alike) p6.1 f6.1 f6.2.1 f6.2.2.1, f6.2.1.trans bv3, by rw [X6.warmed.alike.findClass, f6.1]; exact bf3, by rw [f6.2.2.1, bs3]; simp, fun j hj => by rw [f6.2.2.2 j, if_pos (by omega)]; rfl, kp3.put p6 (Nat.le_refl _)⟩, by rw [p6.2.2, bh3, hh0]; simp⟩, fun fs hl => c8.trans (X8.areturnOut hexec rfl hret rfl (hb hbytes d58) hl)⟩
end Cmp3
namespace CodL
def yN : MethodName := ⟨"java/lang/StringUTF16", "coderFromArrayLen", "([BI)B"⟩
abbrev yB : ByteArray := jdk_52_method_15_code
theorem d0 : decode yB 0 = .ok (.iload_n 1, 1) := by decide +kernel
theorem d1 : decode yB 1 = .ok (.aload_n 0, 1) := by decide +kernel
theorem d2 : decode yB 2 = .ok (.arraylength, 1) := by decide +kernel
theorem d3 : decode yB 3 = .ok (.isub, 1) := by decide +kernel
theorem d4 : decode yB 4 = .ok (.bipush 31, 2) := by decide +kernel
theorem d6 : decode yB 6 = .ok (.iushr, 1) := by decide +kernel
theorem d7 : decode yB 7 = .ok (.i2b, 1) := by decide +kernel
theorem d8 : decode yB 8 = .ok (.ireturn, 1) := by decide +kernel
def site : List Cond := []
def tab : Cond := tabOf yN yB 2 (some .byte) site
def P (d : Addr) (B : Cell) (args : Array Value) (s : State) : Prop := args = #[.ref d, .int (Int32.ofNat B.slots.size)] ∧ Arr .byte d B s
def E (r : Option Value) (s u : State) : Prop := XT.PureE (some (.int 0)) r s u
/-- an array as long as the number of chars: LATIN1 -/
theorem law (l : Launch) (d : Addr) (B : Cell) : Law l yN 2 2 0 0 yB 2 (some .byte) site (P d B) E [] 0 0 := by
  refine Law.of_walk (plainFor_of_name (by decide +kernel)) (by decide +kernel) (by decide +kernel) (by decide) (fun _ _ h => by rw [h.1]; rfl) (fun _ U U' hal hh h => ⟨h.1, h.2.mv hal hh⟩) (fun r U U' V V' h1 hal h2 h => XT.PureE.mv r U U' V V' h1 hal h2 h) ?_
  intro p e s m args below meth c s₁ X0 hexec hbytes hml hret hlk hnm hown hh0 W hP
  obtain ⟨rfl, hB⟩ := hP
  have hB0 := hB.mv X0.warmed.alike hh0
  have c1 : Steps p.tables e below (s₁.setTop (entryFrame m #[.ref d, .int (Int32.ofNat B.slots.size)] 2)) (s₁.setTop (mkF m 0 #[.val (.ref d), .val (.int (Int32.ofNat B.slots.size))] [])) := entry rfl
  have c2 : Steps p.tables e below (s₁.setTop (entryFrame m #[.ref d, .int (Int32.ofNat B.slots.size)] 2)) (s₁.setTop (mkF m 2 #[.val (.ref d), .val (.int (Int32.ofNat B.slots.size))] [.ref d, .int (Int32.ofNat B.slots.size)])) := c1.trans (by
    refine XS.iloadN X0.here hexec rfl (hb hbytes d0) rfl ?_
    refine XS.aloadN X0.here hexec rfl (hb hbytes d1) rfl rfl ?_
    exact Steps.refl _)
  have c3 : Steps p.tables e below (s₁.setTop (entryFrame m #[.ref d, .int (Int32.ofNat B.slots.size)] 2)) (s₁.setTop (mkF m 8 #[.val (.ref d), .val (.int (Int32.ofNat B.slots.size))] [.int (lo8 (ushr (Int32.ofNat B.slots.size - Int32.ofNat B.slots.size) 31))])) := c2.trans (by
    refine X0.alen hexec hB0 rfl rfl (hb hbytes d2) ?_
    refine XS.isub X0.here hexec rfl (hb hbytes d3) rfl ?_
    refine bipushV X0.here hexec rfl 31 (hb hbytes d4) (by decide) ?_
    refine iushr X0.here hexec rfl (hb hbytes d6) rfl ?_
    refine i2b X0.here hexec rfl (hb hbytes d7) rfl ?_
    exact Steps.refl _)
  have e0 : lo8 (ushr (Int32.ofNat B.slots.size - Int32.ofNat B.slots.size) 31) = 0 := by rw [Int32.sub_self]; decide
  rw [e0] at c3
  exact ⟨s₁, some (.int 0), _, _, _, X0, rfl, rfl, rfl, (fun h => by cases h), ⟨rfl, hh0⟩, fun fs hl => c3.trans (X0.ireturnOut hexec hret rfl (Or.inr (Or.inr (Or.inl rfl))) (hb hbytes d8) hl)⟩
end CodL
/-- the String at a is Latin-1 over a new byte[] (the heap's one new cell): the low bytes of the len chars of A from o on; every cell but a is kept -/
def Got (a : Addr) (D : Cell) (fV fC : Field) (A : Cell) (o len : Nat) (r : Option Value) (s u : State) : Prop := r = none ∧ ∃ D' V : Cell, Blank "java/lang/String" a D' u ∧ Same D D' [fV.slot, fC.slot] ∧ D'.slots[fV.slot]? = some (.ref s.heap.size) ∧ D'.slots[fC.slot]? = some (.int 0) ∧ Arr .byte s.heap.size V u ∧ V.vm = .none ∧ u.vm.findClass "[B" = some V.cls ∧ V.slots.size = len ∧ (∀ j, j < len → V.slots[j]? = some (.int (lo8 (cv A (o + j))))) ∧ (∀ (y : Addr) (c : Cell), y ≠ a → s.heap[y]? = some c → u.heap[y]? = some c) ∧ u.heap.size = s.heap.size + 1
theorem Got.mv {a : Addr} {D A : Cell} {fV fC : Field} {o len : Nat} : ∀ r (U U' V V' : State), U'.heap = U.heap → V.vm.Alike V'.vm → V'.heap = V.heap → Got a D fV fC A o len r U V → Got a D fV fC A o len r U' V' :=
  fun r U U' V V' h1 hal h2 ⟨e0, D', X, a1, a2, a3, a4, a5, a6, a7, a8, a9, a10, a11⟩ => ⟨e0, D', X, a1.mv hal h2, a2, by rw [h1]; exact a3, a4, by rw [h1]; exact a5.mv hal h2, a6, by rw [hal.findClass]; exact a7, a8, a9, by rw [h1, h2]; exact a10, by rw [h1, h2]; exact a11⟩
namespace New4
def yN : MethodName := ⟨"java/lang/String", "<init>", "([CIILjava/lang/Void;)V"⟩
abbrev yB : ByteArray := jdk_42_method_149_code
theorem d0 : decode yB 0 = .ok (.aload_n 0, 1) := by decide +kernel
theorem d1 : decode yB 1 = .ok (.invokespecial 1, 3) := by decide +kernel
theorem d4 : decode yB 4 = .ok (.iload_n 3, 1) := by decide +kernel
theorem d5 : decode yB 5 = .ok (.ifCond (.ne) 22, 3) := by decide +kernel
theorem d27 : decode yB 27 = .ok (.getstatic 38, 3) := by decide +kernel
theorem d30 : decode yB 30 = .ok (.ifCond (.eq) 28, 3) := by decide +kernel
theorem d33 : decode yB 33 = .ok (.aload_n 1, 1) := by decide +kernel
theorem d34 : decode yB 34 = .ok (.iload_n 2, 1) := by decide +kernel
theorem d35 : decode yB 35 = .ok (.iload_n 3, 1) := by decide +kernel
theorem d36 : decode yB 36 = .ok (.invokestatic 177, 3) := by decide +kernel
theorem d39 : decode yB 39 = .ok (.astore 5, 2) := by decide +kernel
theorem d41 : decode yB 41 = .ok (.aload_n 0, 1) := by decide +kernel
theorem d42 : decode yB 42 = .ok (.aload 5, 2) := by decide +kernel
theorem d44 : decode yB 44 = .ok (.iload_n 3, 1) := by decide +kernel
theorem d45 : decode yB 45 = .ok (.invokestatic 47, 3) := by decide +kernel
theorem d48 : decode yB 48 = .ok (.putfield 15, 3) := by decide +kernel
theorem d51 : decode yB 51 = .ok (.aload_n 0, 1) := by decide +kernel
theorem d52 : decode yB 52 = .ok (.aload 5, 2) := by decide +kernel
theorem d54 : decode yB 54 = .ok (.putfield 9, 3) := by decide +kernel
theorem d57 : decode yB 57 = .ok (.return_, 1) := by decide +kernel
def site : List Cond := [.fieldLink "java/lang/String" 38 "java/lang/String" "COMPACT_STRINGS" "Z", Cmp3.tab, CodL.tab, .laysFinal "java/lang/String" "java/lang/String" "value" "[B", .fieldLink "java/lang/String" 9 "java/lang/String" "value" "[B", .laysFinal "java/lang/String" "java/lang/String" "coder" "B", .fieldLink "java/lang/String" 15 "java/lang/String" "coder" "B"] ++ objW "java/lang/String" 1 ++ staticW "java/lang/String" 177 Cmp3.yN ++ staticW "java/lang/String" 47 CodL.yN
def tab : Cond := tabOf yN yB 6 none site
def P (a : Addr) (D : Cell) (fV fC : Field) (b : Addr) (A : Cell) (z : Int32) (o len : Nat) (args : Array Value) (s : State) : Prop := args = #[.ref a, .ref b, .int (Int32.ofNat o), .int (Int32.ofNat len), .null] ∧ Blank "java/lang/String" a D s ∧ Found "java/lang/String" "value" "[B" fV s ∧ Found "java/lang/String" "coder" "B" fC s ∧ Ch b A s ∧ StaticIs s "java/lang/String" "COMPACT_STRINGS" "Z" (.int z) ∧ ¬ z = 0 ∧ 0 < len ∧ o + len ≤ A.slots.size ∧ len ≤ 536870912 ∧ ∀ i, i < len → ¬ 255 < cv A (o + i)
def E (a : Addr) (D : Cell) (fV fC : Field) (A : Cell) (o len : Nat) (r : Option Value) (s u : State) : Prop := Got a D fV fC A o len r s u
/-- len > 0, no char of the range above 255: a Latin-1 String of their low bytes -/
theorem law (l : Launch) (a : Addr) (D : Cell) (fV fC : Field) (b : Addr) (A : Cell) (z : Int32) (o len : Nat) : Law l yN 5 4 2 35 yB 6 none site (P a D fV fC b A z o len) (E a D fV fC A o len) [⟨a, fC.slot⟩, ⟨a, fV.slot⟩] 1 len := by
  refine Law.of_walk (plainFor_of_name (by decide +kernel)) (by decide +kernel) (by decide +kernel) (by decide) (fun _ _ h => by rw [h.1]; rfl) (fun _ U U' hal hh h => ⟨h.1, h.2.1.mv hal hh, h.2.2.1.al hal, h.2.2.2.1.al hal, h.2.2.2.2.1.mv hal hh, h.2.2.2.2.2.1.there hal hh, h.2.2.2.2.2.2⟩) (fun r U U' V V' h1 hal h2 h => Got.mv r U U' V V' h1 hal h2 h) ?_
  intro p e s m args below meth c s₁ X0 hexec hbytes hml hret hlk hnm hown hh0 W hP
  obtain ⟨rfl, hB, f1, f2, hA, s1, hz, l0, l1, l2, hp⟩ := hP
  have a31 := hA.1.2.2.2
  have c1 : Steps p.tables e below (s₁.setTop (entryFrame m #[.ref a, .ref b, .int (Int32.ofNat o), .int (Int32.ofNat len), .null] 6)) (s₁.setTop (mkF m 0 #[.val (.ref a), .val (.ref b), .val (.int (Int32.ofNat o)), .val (.int (Int32.ofNat len)), .val .null, .unset] [])) := entry rfl
  have c2 : Steps p.tables e below (s₁.setTop (entryFrame m #[.ref a, .ref b, .int (Int32.ofNat o), .int (Int32.ofNat len), .null] 6)) (s₁.setTop (mkF m 1 #[.val (.ref a), .val (.ref b), .val (.int (Int32.ofNat o)), .val (.int (Int32.ofNat len)), .val .null, .unset] [.ref a])) := c1.trans (by
    refine XS.aloadN X0.here hexec rfl (hb hbytes d0) rfl rfl ?_
    exact Steps.refl _)
  obtain ⟨T3, X3, q3, st3⟩ := X0.oinit hexec hown (wks W (objW "java/lang/String" 1)) (g := (mkF m 1 #[.val (.ref a), .val (.ref b), .val (.int (Int32.ofNat o)), .val (.int (Int32.ofNat len)), .val .null, .unset] [.ref a])) rfl (by rw [hml]; rfl) (rest := []) rfl (hb hbytes d1) (W := 0) (by show 2 * 0 + 0 ≤ _; decide) (Nat.le_of_ble_eq_true rfl) (Nat.le_of_ble_eq_true rfl)
  have hh3 := q3.trans hh0
  have c4 : Steps p.tables e below (s₁.setTop (entryFrame m #[.ref a, .ref b, .int (Int32.ofNat o), .int (Int32.ofNat len), .null] 6)) (T3.setTop (mkF m 27 #[.val (.ref a), .val (.ref b), .val (.int (Int32.ofNat o)), .val (.int (Int32.ofNat len)), .val .null, .unset] [])) := (c2.trans (st3 _ (Steps.refl _))).trans (by
    refine XS.iloadN X3.here hexec rfl (hb hbytes d4) rfl ?_
    refine XS.ifYes X3.here hexec rfl (pc0 := 5) rfl (hb hbytes d5) rfl (i0_ne_t (nz32 (by omega) l0)) (by decide) rfl ?_
    exact Steps.refl _)
  obtain ⟨T5, X5, q5, st5⟩ := X3.sget hexec hown (wk W (.fieldLink "java/lang/String" 38 "java/lang/String" "COMPACT_STRINGS" "Z")) s1 (fun _ _ h => by rw [hh3]; exact h) (g := (mkF m 27 #[.val (.ref a), .val (.ref b), .val (.int (Int32.ofNat o)), .val (.int (Int32.ofNat len)), .val .null, .unset] [])) rfl (hb hbytes d27)
  have hh5 := q5.trans hh3
  have c6 : Steps p.tables e below (s₁.setTop (entryFrame m #[.ref a, .ref b, .int (Int32.ofNat o), .int (Int32.ofNat len), .null] 6)) (T5.setTop (mkF m 30 #[.val (.ref a), .val (.ref b), .val (.int (Int32.ofNat o)), .val (.int (Int32.ofNat len)), .val .null, .unset] [.int z])) := c4.trans (st5 _ (Steps.refl _))
  have c7 : Steps p.tables e below (s₁.setTop (entryFrame m #[.ref a, .ref b, .int (Int32.ofNat o), .int (Int32.ofNat len), .null] 6)) (T5.setTop (mkF m 36 #[.val (.ref a), .val (.ref b), .val (.int (Int32.ofNat o)), .val (.int (Int32.ofNat len)), .val .null, .unset] [.int (Int32.ofNat len), .int (Int32.ofNat o), .ref b])) := c6.trans (by
    refine XS.ifNo X5.here hexec rfl (hb hbytes d30) rfl (i0_eq_f hz) ?_
    refine XS.aloadN X5.here hexec rfl (hb hbytes d33) rfl rfl ?_
    refine XS.iloadN X5.here hexec rfl (hb hbytes d34) rfl ?_
    refine XS.iloadN X5.here hexec rfl (hb hbytes d35) rfl ?_
    exact Steps.refl _)
  obtain ⟨v8, T8, X8, E8, g8⟩ := X5.callS hexec (Cmp3.law l b A o len) hown (wks W (staticW "java/lang/String" 177 Cmp3.yN)) (wk W Cmp3.tab) (W := 0) (Nat.le_of_ble_eq_true rfl) (Nat.le_of_ble_eq_true rfl) (Nat.le_refl _) (by show 0 + len ≤ len; omega) (g := (mkF m 36 #[.val (.ref a), .val (.ref b), .val (.int (Int32.ofNat o)), .val (.int (Int32.ofNat len)), .val .null, .unset] [.int (Int32.ofNat len), .int (Int32.ofNat o), .ref b])) rfl (by rw [hml]; rfl) c7 (argsL := [.ref b, .int (Int32.ofNat o), .int (Int32.ofNat len)]) (rest := []) rfl rfl (by show 2 * 0 + 0 ≤ _; decide) (hb hbytes d36) (⟨rfl, hA.mv X5.warmed.alike hh5, l1, l2, hp⟩)
  obtain ⟨e8, z8⟩ := E8
  obtain ⟨rfl, N, n1, n2, n3, n4, n5, n6⟩ := NewArr.mv _ T5 s _ _ hh5.symm (Vm.Alike.refl _) rfl e8
  rw [hh5] at z8
  have hB1 := hB.keep X8.warmed.alike (n6 _ _ hB.1)
  have hne : s.heap.size ≠ a := (Nat.ne_of_lt (Array.getElem?_eq_some_iff.mp hB.1).1).symm
  have c9 : Steps p.tables e below (s₁.setTop (entryFrame m #[.ref a, .ref b, .int (Int32.ofNat o), .int (Int32.ofNat len), .null] 6)) (T8.setTop (mkF m 39 #[.val (.ref a), .val (.ref b), .val (.int (Int32.ofNat o)), .val (.int (Int32.ofNat len)), .val .null, .unset] [.ref s.heap.size])) := g8
  have c10 : Steps p.tables e below (s₁.setTop (entryFrame m #[.ref a, .ref b, .int (Int32.ofNat o), .int (Int32.ofNat len), .null] 6)) (T8.setTop (mkF m 45 #[.val (.ref a), .val (.ref b), .val (.int (Int32.ofNat o)), .val (.int (Int32.ofNat len)), .val .null, .val (.ref s.heap.size)] [.int (Int32.ofNat N.slots.size), .ref s.heap.size, .ref a])) := by
    have hc : Steps p.tables e below (s₁.setTop (entryFrame m #[.ref a, .ref b, .int (Int32.ofNat o), .int (Int32.ofNat len), .null] 6)) (T8.setTop (mkF m 45 #[.val (.ref a), .val (.ref b), .val (.int (Int32.ofNat o)), .val (.int (Int32.ofNat len)), .val .null, .val (.ref s.heap.size)] [.int (Int32.ofNat len), .ref s.heap.size, .ref a])) := c9.trans (by
      refine XS.astore X8.here hexec rfl (hb hbytes d39) rfl rfl rfl ?_
      refine XS.aloadN X8.here hexec rfl (hb hbytes d41) rfl rfl ?_
      refine XS.aload X8.here hexec rfl (hb hbytes d42) rfl rfl ?_
      refine XS.iloadN X8.here hexec rfl (hb hbytes d44) rfl ?_
      exact Steps.refl _)
    rw [n4]; exact hc
  obtain ⟨v11, T11, X11, E11, g11⟩ := X8.callS hexec (CodL.law l s.heap.size N) hown (wks W (staticW "java/lang/String" 47 CodL.yN)) (wk W CodL.tab) (W := 1) (Nat.le_of_ble_eq_true rfl) (Nat.le_of_ble_eq_true rfl) (Nat.le_refl _) (by show 0 + len + 0 ≤ len; omega) (g := (mkF m 45 #[.val (.ref a), .val (.ref b), .val (.int (Int32.ofNat o)), .val (.int (Int32.ofNat len)), .val .null, .val (.ref s.heap.size)] [.int (Int32.ofNat N.slots.size), .ref s.heap.size, .ref a])) rfl (by rw [hml]; rfl) c10 (argsL := [.ref s.heap.size, .int (Int32.ofNat N.slots.size)]) (rest := [.ref a]) rfl rfl (by show 2 * 0 + (1 + 0) ≤ _; decide) (hb hbytes d45) (⟨rfl, n1⟩)
  obtain ⟨rfl, q11⟩ := E11
  have hB11 := hB1.mv (X8.warmed.alike.symm.trans X11.warmed.alike) q11
  have c12 : Steps p.tables e below (s₁.setTop (entryFrame m #[.ref a, .ref b, .int (Int32.ofNat o), .int (Int32.ofNat len), .null] 6)) (T11.setTop (mkF m 48 #[.val (.ref a), .val (.ref b), .val (.int (Int32.ofNat o)), .val (.int (Int32.ofNat len)), .val .null, .val (.ref s.heap.size)] [.int 0, .ref a])) := g11
  obtain ⟨T13, X13, p13, bl13, sl13, st13⟩ := X11.finit hexec hown (wk W (.fieldLink "java/lang/String" 15 "java/lang/String" "coder" "B")) (Or.inr ⟨_, (wk W (.laysFinal "java/lang/String" "java/lang/String" "coder" "B"))⟩) (Or.inl ⟨rfl, hnm⟩) f2 (Or.inl rfl) hB11 (t := .byte) (by decide +kernel) rfl (g := (mkF m 48 #[.val (.ref a), .val (.ref b), .val (.int (Int32.ofNat o)), .val (.int (Int32.ofNat len)), .val .null, .val (.ref s.heap.size)] [.int 0, .ref a])) rfl (rest := []) rfl (hb hbytes d48)
  have c14 : Steps p.tables e below (s₁.setTop (entryFrame m #[.ref a, .ref b, .int (Int32.ofNat o), .int (Int32.ofNat len), .null] 6)) (T13.setTop (mkF m 54 #[.val (.ref a), .val (.ref b), .val (.int (Int32.ofNat o)), .val (.int (Int32.ofNat len)), .val .null, .val (.ref s.heap.size)] [.ref s.heap.size, .ref a])) := (c12.trans (st13 _ (Steps.refl _))).trans (by
    refine XS.aloadN X13.here hexec rfl (hb hbytes d51) rfl rfl ?_
    refine XS.aload X13.here hexec rfl (hb hbytes d52) rfl rfl ?_
    exact Steps.refl _)
  obtain ⟨T15, X15, p15, bl15, sl15, st15⟩ := X13.finit hexec hown (wk W (.fieldLink "java/lang/String" 9 "java/lang/String" "value" "[B")) (Or.inr ⟨_, (wk W (.laysFinal "java/lang/String" "java/lang/String" "value" "[B"))⟩) (Or.inl ⟨rfl, hnm⟩) f1 (Or.inl rfl) bl13 (t := (.array .byte)) (by decide +kernel) rfl (g := (mkF m 54 #[.val (.ref a), .val (.ref b), .val (.int (Int32.ofNat o)), .val (.int (Int32.ofNat len)), .val .null, .val (.ref s.heap.size)] [.ref s.heap.size, .ref a])) rfl (rest := []) rfl (hb hbytes d54)
  have c16 : Steps p.tables e below (s₁.setTop (entryFrame m #[.ref a, .ref b, .int (Int32.ofNat o), .int (Int32.ofNat len), .null] 6)) (T15.setTop (mkF m 57 #[.val (.ref a), .val (.ref b), .val (.int (Int32.ofNat o)), .val (.int (Int32.ofNat len)), .val .null, .val (.ref s.heap.size)] [])) := c14.trans (st15 _ (Steps.refl _))
  have ap := apart (Or.inr ⟨_, (wk W (.laysFinal "java/lang/String" "java/lang/String" "value" "[B"))⟩) (Or.inr ⟨_, (wk W (.laysFinal "java/lang/String" "java/lang/String" "coder" "B"))⟩) f1 f2 (t₁ := .array .byte) (t₂ := .byte) (by decide +kernel) (by decide +kernel) (by decide)
  have al := X8.warmed.alike.symm.trans X15.warmed.alike
  have n7 : T11.heap[s.heap.size]? = some N := by rw [q11]; exact n1.1
  exact ⟨T15, none, _, _, _, X15, by simp, rfl, by omega, (fun _ => rfl), ⟨rfl, _, N, bl15, ((Same.refl D _).set _ (by simp)).set _ (by simp), sl15, (Cell.slots_setSlot_ne _ ap).trans sl13, n1.keep al (p15.other hne (p13.other hne n7)), n2, by rw [al.findClass]; exact n3, n4, n5, fun y c h1 h2 => p15.other h1 (p13.other h1 (by rw [q11]; exact n6 y c h2)), by rw [p15.2.2, p13.2.2, q11]; exact z8⟩, fun fs hl => c16.trans (X15.returnOut hexec hret (hb hbytes d57) hl)⟩
end New4
namespace New1
def yN : MethodName := ⟨"java/lang/String", "<init>", "([C)V"⟩
abbrev yB : ByteArray := jdk_42_method_3_code
theorem d0 : decode yB 0 = .ok (.aload_n 0, 1) := by decide +kernel
theorem d1 : decode yB 1 = .ok (.aload_n 1, 1) := by decide +kernel
theorem d2 : decode yB 2 = .ok (.iconst 0, 1) := by decide +kernel
theorem d3 : decode yB 3 = .ok (.aload_n 1, 1) := by decide +kernel
theorem d4 : decode yB 4 = .ok (.arraylength, 1) := by decide +kernel
theorem d5 : decode yB 5 = .ok (.aconst_null, 1) := by decide +kernel
theorem d6 : decode yB 6 = .ok (.invokespecial 27, 3) := by decide +kernel
theorem d9 : decode yB 9 = .ok (.return_, 1) := by decide +kernel
def site : List Cond := [New4.tab] ++ initW "java/lang/String" 27 New4.yN
def tab : Cond := tabOf yN yB 2 none site
def P (a : Addr) (D : Cell) (fV fC : Field) (b : Addr) (A : Cell) (z : Int32) (args : Array Value) (s : State) : Prop := args = #[.ref a, .ref b] ∧ Blank "java/lang/String" a D s ∧ Found "java/lang/String" "value" "[B" fV s ∧ Found "java/lang/String" "coder" "B" fC s ∧ Ch b A s ∧ StaticIs s "java/lang/String" "COMPACT_STRINGS" "Z" (.int z) ∧ ¬ z = 0 ∧ 0 < A.slots.size ∧ A.slots.size ≤ 536870912 ∧ ∀ i, i < A.slots.size → ¬ 255 < cv A i
def E (a : Addr) (D : Cell) (fV fC : Field) (A : Cell) (r : Option Value) (s u : State) : Prop := Got a D fV fC A 0 A.slots.size r s u
/-- new String(chars), not empty, no char above 255: a Latin-1 String of their low bytes -/
theorem law (l : Launch) (a : Addr) (D : Cell) (fV fC : Field) (b : Addr) (A : Cell) (z : Int32) : Law l yN 2 1 3 52 yB 2 none site (P a D fV fC b A z) (E a D fV fC A) [⟨a, fC.slot⟩, ⟨a, fV.slot⟩] 1 A.slots.size := by
  refine Law.of_walk (plainFor_of_name (by decide +kernel)) (by decide +kernel) (by decide +kernel) (by decide) (fun _ _ h => by rw [h.1]; rfl) (fun _ U U' hal hh h => ⟨h.1, h.2.1.mv hal hh, h.2.2.1.al hal, h.2.2.2.1.al hal, h.2.2.2.2.1.mv hal hh, h.2.2.2.2.2.1.there hal hh, h.2.2.2.2.2.2⟩) (fun r U U' V V' h1 hal h2 h => Got.mv r U U' V V' h1 hal h2 h) ?_
  intro p e s m args below meth c s₁ X0 hexec hbytes hml hret hlk hnm hown hh0 W hP
  obtain ⟨rfl, hB, f1, f2, hA, s1, hz, l0, l2, hp⟩ := hP
  have c1 : Steps p.tables e below (s₁.setTop (entryFrame m #[.ref a, .ref b] 2)) (s₁.setTop (mkF m 0 #[.val (.ref a), .val (.ref b)] [])) := entry rfl
  have c2 : Steps p.tables e below (s₁.setTop (entryFrame m #[.ref a, .ref b] 2)) (s₁.setTop (mkF m 6 #[.val (.ref a), .val (.ref b)] [.null, .int (Int32.ofNat A.slots.size), .int 0, .ref b, .ref a])) := c1.trans (by
    refine XS.aloadN X0.here hexec rfl (hb hbytes d0) rfl rfl ?_
    refine XS.aloadN X0.here hexec rfl (hb hbytes d1) rfl rfl ?_
    refine iconstV X0.here hexec rfl 0 (hb hbytes d2) (by decide) ?_
    refine XS.aloadN X0.here hexec rfl (hb hbytes d3) rfl rfl ?_
    refine X0.alen hexec (hA.1.mv X0.warmed.alike hh0) rfl rfl (hb hbytes d4) ?_
    refine XS.aconstNull X0.here hexec rfl (hb hbytes d5) ?_
    exact Steps.refl _)
  obtain ⟨v3, T3, X3, E3, g3⟩ := X0.callN hexec (New4.law l a D fV fC b A z 0 A.slots.size) rfl hown (wks W (initW "java/lang/String" 27 New4.yN)) (W New4.tab (by simp only [site, List.mem_cons, List.mem_append, true_or, or_true])) (W := 0) (Nat.le_of_ble_eq_true rfl) (Nat.le_of_ble_eq_true rfl) (Nat.le_refl _) (by show 0 + A.slots.size ≤ A.slots.size; omega) (g := (mkF m 6 #[.val (.ref a), .val (.ref b)] [.null, .int (Int32.ofNat A.slots.size), .int (Int32.ofNat 0), .ref b, .ref a])) rfl (by rw [hml]; rfl) c2 (argsL := [.ref b, .int (Int32.ofNat 0), .int (Int32.ofNat A.slots.size), .null]) (rest := []) rfl rfl (by show 2 * 0 + 0 ≤ _; decide) (hb hbytes d6) (⟨rfl, hB.mv X0.warmed.alike hh0, f1.al X0.warmed.alike, f2.al X0.warmed.alike, hA.mv X0.warmed.alike hh0, s1.there X0.warmed.alike hh0, hz, l0, by omega, l2, fun i hi => by rw [Nat.zero_add]; exact hp i hi⟩)
  have e0 := Got.mv _ s₁ s _ _ hh0.symm (Vm.Alike.refl _) rfl E3
  obtain rfl := e0.1
  have c4 : Steps p.tables e below (s₁.setTop (entryFrame m #[.ref a, .ref b] 2)) (T3.setTop (mkF m 9 #[.val (.ref a), .val (.ref b)] [])) := g3
  exact ⟨T3, none, _, _, _, X3, by simp, rfl, by omega, (fun _ => rfl), e0, fun fs hl => c4.trans (X3.returnOut hexec hret (hb hbytes d9) hl)⟩
theorem pays {l : Launch} {R : Room} {p : Program} {e : Env} {below : List Frame} {s : State} {sargs : Array Value} {len W : Nat} (a : Addr) (D : Cell) (fV fC : Field) (b : Addr) (A : Cell) (z : Int32) (htab : tab.before sargs s = true) (hfr : 4 ≤ R.frames) (hlo : W + 65 ≤ R.locals) :
    Back l R p e below s sargs yN len W (fun A₁ a₁ => A₁.cells + 1 ≤ R.cells ∧ A₁.slots + A.slots.size ≤ R.slots ∧ P a D fV fC b A z a₁ A₁.U) (fun A₁ _ v₁ B₁ => E a D fV fC A v₁ A₁.U B₁.U ∧ B₁.locs = A₁.locs ++ [⟨a, fC.slot⟩, ⟨a, fV.slot⟩] ∧ B₁.cells = A₁.cells + 1 ∧ B₁.slots = A₁.slots + A.slots.size) :=
  (law l a D fV fC b A z).pays htab hfr (by omega)
end New1
/-- the byte, read back as charAt reads it, is the char -/
theorem lo8_mask {x : Int32} (h0 : ¬ x < 0) (h1 : ¬ 255 < x) : lo8 x &&& 255 = x := by
  have t : ∀ k : Fin 256, lo8 (Int32.ofNat k.val) &&& 255 = Int32.ofNat k.val := by decide +kernel
  rw [Int32.lt_iff_toInt_lt] at h0 h1
  have e0 : (0 : Int32).toInt = 0 := rfl
  have e1 : (255 : Int32).toInt = 255 := rfl
  obtain ⟨k, hk⟩ : ∃ k : Nat, x.toInt = k := ⟨x.toInt.toNat, by omega⟩
  have hx : x = Int32.ofNat k := Int32.toInt_inj.mp (by rw [hk, Int32.toInt_ofNat_small (by omega)])
  rw [hx]
  exact t ⟨k, by omega⟩
end StrChars
namespace StrChars.Road
open Jvm Sem ClassFile Op Lib Jvm.Stand Jvm.Free Jvm.Free.XT
open Jvm.Lib.Cold (StaticIs)
abbrev ST : String := "java/lang/String"
/-- every table word that New1's law asks, flat -/
abbrev words : List Jvm.Cond := [.code New1.yN New1.yB 2 none, .initialized ST, .methodLink ST 27 New4.yN, .instanceMethod New4.yN,
  .code New4.yN New4.yB 6 none, .fieldLink ST 38 ST "COMPACT_STRINGS" "Z", .laysFinal ST ST "value" "[B", .fieldLink ST 9 ST "value" "[B", .laysFinal ST ST "coder" "B", .fieldLink ST 15 ST "coder" "B",
  .methodLink ST 1 Lib.objectInit, .instanceMethod Lib.objectInit, .code Lib.objectInit ⟨#[0xb1]⟩ 1 none, .methodLink ST 177 Cmp3.yN, .static Cmp3.yN, .methodLink ST 47 CodL.yN, .static CodL.yN,
  .code Cmp3.yN Cmp3.yB 6 (some (.array .byte)), .initialized U16, .arrayClass .byte, .methodLink U16 115 Cmp5.yN, .static Cmp5.yN, .code Cmp5.yN Cmp5.yB 7 (some .int), .code CodL.yN CodL.yB 2 (some .byte)]
theorem tab_of {a : Array Value} {s : State} (h : ∀ w ∈ words, w.before a s = true) : New1.tab.before a s = true := by
  have h5 : Cmp5.tab.before a s = true := unparts (wk h (.code Cmp5.yN Cmp5.yB 7 (some .int))) (wks h (.initialized Cmp5.yN.cls :: Cmp5.site))
  have hc : CodL.tab.before a s = true := unparts (wk h (.code CodL.yN CodL.yB 2 (some .byte))) (wks h (.initialized CodL.yN.cls :: CodL.site))
  have q5 : ∀ w ∈ Cmp5.tab :: words, w.before a s = true := fun w hw => (List.mem_cons.mp hw).elim (fun e => e ▸ h5) (h w)
  have h3 : Cmp3.tab.before a s = true := unparts (wk q5 (.code Cmp3.yN Cmp3.yB 6 (some (.array .byte)))) (wks q5 (.initialized Cmp3.yN.cls :: Cmp3.site))
  have q3 : ∀ w ∈ Cmp3.tab :: CodL.tab :: words, w.before a s = true := fun w hw => (List.mem_cons.mp hw).elim (fun e => e ▸ h3) fun hw => (List.mem_cons.mp hw).elim (fun e => e ▸ hc) (h w)
  have h4 : New4.tab.before a s = true := unparts (wk q3 (.code New4.yN New4.yB 6 none)) (wks q3 (.initialized New4.yN.cls :: New4.site))
  have q4 : ∀ w ∈ New4.tab :: words, w.before a s = true := fun w hw => (List.mem_cons.mp hw).elim (fun e => e ▸ h4) (h w)
  exact unparts (wk q4 (.code New1.yN New1.yB 2 none)) (wks q4 (.initialized New1.yN.cls :: New1.site))
/-- the words ride from the start Z to the walk's own state -/
theorem moved {Z s : State} {a0 args : Array Value} (hZ : Z.Warmed39 s.vm) (hw : ∀ d ∈ words, d.before a0 Z = true) : ∀ d ∈ words, d.before args s = true := fun d hd => by
  have q := hw d hd
  have t : ∀ d ∈ words, d = .arrayClass .byte ∨ (d.onTables && d.keepsFace) = true := by decide +kernel
  rcases t d hd with rfl | t
  · exact RoadKit.mvA hZ q
  · exact RoadKit.mv hZ q t
/-- WHAT COMES BACK, over the tables of the start Z: h the heap at the call, h' behind it -/
def Q (Z : State) (x : Addr) (A : Cell) (h : Heap) (v : Option Value) (h' : Heap) (L : List Loc) : Prop := v = none ∧ (∀ y ∈ L, y.base = x) ∧ RoadKit.Keep h h' [x] ∧ h'.size = h.size + 1 ∧ RoadKit.Exa Z h' x ST ∧ RoadKit.Fld Z h' x ST "value" "[B" (.ref h.size) ∧ RoadKit.Fld Z h' x ST "coder" "B" (.int 0) ∧
  (∃ V : Cell, RoadKit.Arr Z h' h.size V .byte ∧ V.vm = .none ∧ Z.vm.findClass "[B" = some V.cls ∧ V.slots.size = A.slots.size ∧ ∀ j, j < A.slots.size → V.slots[j]? = some (.int (lo8 (cv A j)))) ∧
  ∀ (O n d : String) (w : Value), RoadKit.Fld Z h x O n d w → RoadKit.slotOf Z O n d ≠ RoadKit.slotOf Z ST "value" "[B" → RoadKit.slotOf Z O n d ≠ RoadKit.slotOf Z ST "coder" "B" → RoadKit.Fld Z h' x O n d w
/-- **new String(chars) AT A CALL, IN THE ROAD'S FORM**: for specialBack behind newO: x the fresh String, b the char[] with the cell A -/
theorem back {p : Program} {l : Launch} {e : Env} {R : Room} {s : State} {args : Array Value} {below : List Frame} {len W : Nat} {Z : State} {a0 : Array Value} {h : Heap} (hZ : Z.Warmed39 s.vm) (hw : ∀ d ∈ words, d.before a0 Z = true) {kI : Nat} (wi : (Jvm.Cond.instantiable ST kI).before a0 Z = true)
    {x b : Addr} {A : Cell} {z : Int32} {v0 c0 : Value} (E : RoadKit.Exa Z h x ST) (V : RoadKit.Fld Z h x ST "value" "[B" v0) (C : RoadKit.Fld Z h x ST "coder" "B" c0) (K : RoadKit.Arr Z h b A .char) (hty : Typed .char A) (S : RoadKit.Sta Z h ST "COMPACT_STRINGS" "Z" (.int z)) (hz : ¬ z = 0)
    (l0 : 0 < A.slots.size) (l2 : A.slots.size ≤ 536870912) (hp : ∀ i, i < A.slots.size → ¬ 255 < cv A i) (hfr : 4 ≤ R.frames) (hlo : W + 65 ≤ R.locals) :
    Back l R p e below s args New1.yN len W (fun P a => a = #[.ref x, .ref b] ∧ P.U.heap = h ∧ P.cells + 1 ≤ R.cells ∧ P.slots + A.slots.size ≤ R.slots)
      (fun P _ v B => ∃ L, Q Z x A h v B.U.heap L ∧ B.locs = P.locs ++ L ∧ B.cells = P.cells + 1 ∧ B.slots = P.slots + A.slots.size) := by
  intro m meth c P g ig mk a X hg hsize hdg hW hn hp'
  obtain ⟨rfl, rfl, r1, r2⟩ := hp'
  have al : Z.vm.Alike P.U.vm := hZ.alike.trans X.warmed.alike
  obtain ⟨D, cfV, kV, iV, fV, hD, gV, stV, knV, obV, asV, slV⟩ := id V
  obtain ⟨D', cfC, kC, iC, fC, hD', gC, stC, -, -, asC, slC⟩ := id C
  cases hD.symm.trans hD'
  obtain ⟨D2, kD, e1, e2, e3, e4, e5⟩ := id E
  cases hD.symm.trans e1
  obtain ⟨c2, k2, i1, i2, i3, -⟩ := Cond.instantiable_spec wi
  cases e2.symm.trans i1
  cases e3.symm.trans i2
  obtain ⟨kU, u1, u2⟩ := al.2.2 _ _ e3
  have hB : Blank ST x D P.U := ⟨hD, ⟨knV, fun q hq => by rw [hq] at obV; cases obV⟩, by rw [al.findClass]; exact e2, kU, u1, by rw [u2]; exact i3, by rw [u2]; exact e5 i3⟩
  have F1 : Found ST "value" "[B" fV P.U := ⟨SBG.found_only al ⟨cfV, kV, iV, gV⟩, stV⟩
  have F2 : Found ST "coder" "B" fC P.U := ⟨SBG.found_only al ⟨cfC, kC, iC, gC⟩, stC⟩
  have hA : Ch b A P.U := ⟨⟨K.1, State.isArrayOf_alike al K.2.1, K.2.2, by omega⟩, hty⟩
  have hS : StaticIs P.U ST "COMPACT_STRINGS" "Z" (.int z) := by
    obtain ⟨cfS, iS, kS, fS, st, cS, t1, t2, t3, t4, t5, t6, t7⟩ := S
    exact StaticIs.there (s := { Z with heap := P.U.heap }) ⟨cfS, iS, kS, fS, st, cS, t1, t2, t3, t4, t5, (fun q => by rw [q] at t6; cases t6), t7⟩ al rfl
  obtain ⟨v, B, X', ⟨⟨hv, E', V', q1, q2, q3, q4, q5, q6, q7, q8, q9, q10, q11⟩, hl, hc, hs⟩, st⟩ := New1.pays x D fV fC b A z (tab_of (moved hZ hw)) hfr hlo m meth c P g ig mk _ X hg hsize hdg hW hn ⟨r1, r2, rfl, hB, F1, F2, hA, hS, hz, l0, l2, hp⟩
  have al' : Z.vm.Alike B.U.vm := hZ.alike.trans X'.warmed.alike
  have hsz : E'.slots.size = D.slots.size := by
    obtain ⟨-, -, -, kB, w1, w2, w3⟩ := q1
    obtain ⟨kB', y1, y2⟩ := al'.2.2 _ _ e3
    rw [q2.2.1] at w1
    cases w1.symm.trans y1
    rw [w3, e5 i3, y2]
  refine ⟨v, B, X', ⟨_, ⟨hv, ?_, ⟨by omega, fun y cy hy hn' => q10 y cy (by simpa using hn') hy, fun y cy hy => ?_⟩, q11, ⟨E', _, q1.1, by rw [q2.2.1]; exact e2, by rw [q2.2.1]; exact e3, by rw [q2.1]; exact obV, fun _ => by rw [hsz]; exact e5 i3⟩,
    ⟨E', cfV, kV, iV, fV, q1.1, gV, stV, by rw [q2.1]; exact knV, by rw [q2.1]; exact obV, by rw [q2.2.1]; exact asV, q3⟩, ⟨E', cfC, kC, iC, fC, q1.1, gC, stC, by rw [q2.1]; exact knV, by rw [q2.1]; exact obV, by rw [q2.2.1]; exact asC, q4⟩,
    ⟨V', ⟨q5.1, State.isArrayOf_alike al'.symm q5.2.1, q5.2.2.1⟩, q6, by rw [← al'.findClass]; exact q7, q8, fun j hj => by have := q9 j hj; rwa [Nat.zero_add] at this⟩, fun O n d w F n1 n2 => ?_⟩, hl, hc, hs⟩, st⟩
  · intro y hy
    simp only [List.mem_cons, List.not_mem_nil, or_false] at hy
    rcases hy with rfl | rfl <;> rfl
  · by_cases q : y = x
    · subst q
      cases hD.symm.trans hy
      exact ⟨E', q1.1, q2.2.1, q2.1, hsz⟩
    · exact ⟨cy, q10 y cy q hy, rfl, rfl, rfl⟩
  · obtain ⟨D3, cf, k, i, f, g1, g2, g3, g4, g5, g6, g7⟩ := F
    cases hD.symm.trans g1
    simp only [RoadKit.slotOf, g2, gV, gC, Option.map_some, Option.getD_some] at n1 n2
    exact ⟨E', cf, k, i, f, q1.1, g2, g3, by rw [q2.1]; exact g4, by rw [q2.1]; exact g5, by rw [q2.2.1]; exact g6, by rw [q2.2.2 f.slot (by simp [n1, n2])]; exact g7⟩
end StrChars.Road
namespace StrChars.Road
open Jvm Sem ClassFile Op Lib Jvm.Stand Jvm.Free Jvm.Free.XT
/-- WHAT COMES BACK, the byte[] as a list of values -/
def QA (Z : State) (x : Addr) (zn : Int32) (cs : List Int32) (h : Heap) (v : Option Value) (h' : Heap) (L : List Loc) : Prop := v = none ∧ (∀ y ∈ L, y.base = x) ∧ RoadKit.Keep h h' [x] ∧ h'.size = h.size + 1 ∧ RoadKit.Exa Z h' x ST ∧ RoadKit.Fld Z h' x ST "value" "[B" (.ref h.size) ∧ RoadKit.Fld Z h' x ST "coder" "B" (.int 0) ∧
  (∃ kb, Z.vm.findClass "[B" = some kb ∧ RoadKit.Arv Z h' h.size kb .byte zn (cs.map fun c => .int (lo8 c)) (.int 0)) ∧
  ∀ (O n d : String) (w : Value), RoadKit.Fld Z h x O n d w → RoadKit.slotOf Z O n d ≠ RoadKit.slotOf Z ST "value" "[B" → RoadKit.slotOf Z O n d ≠ RoadKit.slotOf Z ST "coder" "B" → RoadKit.Fld Z h' x O n d w
/-- **new String(chars) AT A CALL, THE ARRAYS AS LISTS**: the char[] at b holds cs, not empty, no char above 255 -/
theorem backArv {p : Program} {l : Launch} {e : Env} {R : Room} {s : State} {args : Array Value} {below : List Frame} {len W : Nat} {Z : State} {a0 : Array Value} {h : Heap} (hZ : Z.Warmed39 s.vm) (hw : ∀ d ∈ words, d.before a0 Z = true) {kI : Nat} (wi : (Jvm.Cond.instantiable ST kI).before a0 Z = true)
    {x b : Addr} {k : ClassId} {zn z : Int32} {cs : List Int32} {dv v0 c0 : Value} (E : RoadKit.Exa Z h x ST) (V : RoadKit.Fld Z h x ST "value" "[B" v0) (C : RoadKit.Fld Z h x ST "coder" "B" c0) (K : RoadKit.Arv Z h b k .char zn (cs.map Value.int) dv) (S : RoadKit.Sta Z h ST "COMPACT_STRINGS" "Z" (.int z)) (hz : ¬ z = 0)
    (hlen : zn.toNatClampNeg = cs.length) (h0 : 0 < cs.length) (hbig : cs.length ≤ 536870912) (hall : ∀ c ∈ cs, ¬ 255 < c) (hfr : 4 ≤ R.frames) (hlo : W + 65 ≤ R.locals) :
    Back l R p e below s args New1.yN len W (fun P a => a = #[.ref x, .ref b] ∧ P.U.heap = h ∧ P.cells + 1 ≤ R.cells ∧ P.slots + cs.length ≤ R.slots)
      (fun P _ v B => ∃ L, QA Z x zn cs h v B.U.heap L ∧ B.locs = P.locs ++ L ∧ B.cells = P.cells + 1 ∧ B.slots = P.slots + cs.length) := by
  obtain ⟨A, K1, K2, K3, K4, K5, K6⟩ := K
  have e : A.slots.size = cs.length := K3.trans hlen
  have hat : ∀ (i : Nat) (hi : i < cs.length), A.slots[i]? = some (.int cs[i]) := fun i hi => by rw [K5 i (by omega)]; simp [List.getD_eq_getElem?_getD, hi]
  have hcv : ∀ (i : Nat) (hi : i < cs.length), cv A i = cs[i] := fun i hi => by unfold cv; rw [hat i hi]
  have hty : Typed .char A := fun i v hv => by
    have hi : i < A.slots.size := (Array.getElem?_eq_some_iff.mp hv).1
    have q := K5 i hi
    rw [hv] at q
    rw [Option.some.inj q]
    exact K6 i hi
  refine Back.mono (back hZ hw wi E V C K1 hty S hz (by omega) (by omega) (fun i hi => by rw [hcv i (by omega)]; exact hall _ (List.getElem_mem _)) hfr hlo) (fun P a hp => ⟨hp.1, hp.2.1, hp.2.2.1, by rw [e]; exact hp.2.2.2⟩) (fun P a v B hp hq => ?_)
  obtain ⟨L, ⟨q1, q2, q3, q4, q5, q6, q7, ⟨V', v1, v2, v3, v4, v5⟩, q9⟩, hl, hc, hs⟩ := hq
  refine ⟨L, ⟨q1, q2, q3, q4, q5, q6, q7, ⟨V'.cls, v3, V', v1, rfl, by rw [v4, e, hlen], K4, fun i hi => ?_, fun i hi => ?_⟩, q9⟩, hl, hc, by rw [hs, e]⟩
  · have hi' : i < cs.length := by omega
    rw [v5 i (by omega), hcv i hi']; simp [List.getD_eq_getElem?_getD, hi']
  · have hi' : i < cs.length := by omega
    simp only [List.getD_eq_getElem?_getD, List.getElem?_map, List.getElem?_eq_getElem hi', Option.map_some, Option.getD_some]
    exact fits_lo8 _
end StrChars.Road
namespace StrChars.Road
open Jvm Sem ClassFile Op Lib Jvm.Stand Jvm.Free Jvm.Free.XT
/-- WHAT COMES BACK, in the writer's own shape -/
def QV (Z : State) (x : Addr) (N : Int32) (bs : List Int32) (h : Heap) (n0 : Nat) (v : Option Value) (h' : Heap) (L : List Loc) : Prop := v = none ∧ RoadKit.Fr n0 L ∧ RoadKit.Keep h h' [x] ∧ RoadKit.Exa Z h' x ST ∧ RoadKit.Fld Z h' x ST "coder" "B" (.int 0) ∧
  ∃ (t : Addr) (kb : ClassId), n0 ≤ t ∧ h.size ≤ t ∧ ¬ t = x ∧ RoadKit.Fld Z h' x ST "value" "[B" (.ref t) ∧ RoadKit.Arv Z h' t kb .byte N (bs.map Value.int) (.int 0)
/-- **new String(chars) AT A CALL, FOR THE WRITER**: a char[] of n known ints, each 0 to 255 -/
theorem backV {p : Program} {l : Launch} {e : Env} {R : Room} {s : State} {args : Array Value} {below : List Frame} {len W : Nat} {Z : State} {a0 : Array Value} {h : Heap} (hZ : Z.Warmed39 s.vm) (hw : ∀ d ∈ words, d.before a0 Z = true) {kI : Nat} (wi : (Jvm.Cond.instantiable ST kI).before a0 Z = true)
    {x b : Addr} {kC : ClassId} {cs bs : List Int32} {d v0 c0 : Value} {z N : Int32} {n n0 : Nat} (hx0 : n0 ≤ x) (hh0 : n0 ≤ h.size) (E : RoadKit.Exa Z h x ST) (V : RoadKit.Fld Z h x ST "value" "[B" v0) (C : RoadKit.Fld Z h x ST "coder" "B" c0) (K : RoadKit.Arv Z h b kC .char N (cs.map Value.int) d) (S : RoadKit.Sta Z h ST "COMPACT_STRINGS" "Z" (.int z)) (hz : ¬ z = 0)
    (hn : cs.length = n) (hN : N = Int32.ofNat n) (l0 : 0 < n) (l2 : n ≤ 4000) (hp : ∀ c ∈ cs, ¬ c < 0 ∧ ¬ (255 : Int32) < c) (hb : bs = cs.map (fun c => c.toInt8.toInt32)) (hfr : 4 ≤ R.frames) (hlo : W + 65 ≤ R.locals) :
    Back l R p e below s args (⟨"java/lang/String", "<init>", "([C)V"⟩ : MethodName) len W (fun P a => a = #[.ref x, .ref b] ∧ P.U.heap = h ∧ P.cells + 1 ≤ R.cells ∧ P.slots + n ≤ R.slots)
      (fun P _ v B => ∃ L, QV Z x N bs h n0 v B.U.heap L ∧ B.locs = P.locs ++ L ∧ B.cells = P.cells + 1 ∧ B.slots = P.slots + n) := by
  subst hn hN hb
  refine Back.mono (backArv hZ hw wi E V C K S hz (n32 (by omega)) l0 (by omega) (fun c hc => (hp c hc).2) hfr hlo) (fun P a hp => hp) (fun P a v B hp hq => ?_)
  obtain ⟨L, ⟨q1, q2, q3, q4, q5, q6, q7, ⟨kb, v1, v2⟩, q9⟩, hl, hc, hs⟩ := hq
  exact ⟨L, ⟨q1, fun y hy => by rw [q2 y hy]; exact hx0, q3, q5, q7, h.size, kb, hh0, Nat.le_refl _, Nat.ne_of_gt E.lt, q6, by rw [List.map_map]; exact v2⟩, hl, hc, hs⟩
end StrChars.Road
namespace StrChars
open Jvm Sem ClassFile Op Lib Jvm.Stand Jvm.Free.XT Jvm.Free.ALB Jvm.Free.JM Jvm.Free
open Jvm.Lib.Cold (StaticIs)
def hi8 (x : Int32) : Int32 := lo8 (x >>> ((8 : Int32) &&& 31))
/-- what StringUTF16.getChar makes of two bytes -/
def pairCh (u v : Int32) : Int32 := (((u &&& 255) <<< ((0 : Int32) &&& 31)) ||| ((v &&& 255) <<< ((8 : Int32) &&& 31))).toUInt32.toUInt16.toUInt32.toInt32
theorem shr0 (c : Int32) : c >>> ((0 : Int32) &&& 31) = c := by
  have e : ((0 : Int32) &&& 31) = 0 := by decide
  rw [e]
  apply Int32.toBitVec_inj.mp
  rw [Int32.toBitVec_shiftRight]
  have e1 : ((0 : Int32).toBitVec.smod 32) = 0#32 := by decide
  rw [e1, BitVec.sshiftRight_eq']
  exact BitVec.sshiftRight_zero
theorem lo8_and (x : Int32) : (lo8 x &&& 255).toBitVec.toNat = x.toBitVec.toNat % 256 := by
  have h : (lo8 x).toBitVec = (x.toBitVec.signExtend 8).signExtend 32 := by rw [lo8, Int8.toBitVec_toInt32, Int32.toBitVec_toInt8]
  rw [Int32.toBitVec_and, BitVec.toNat_and, h]
  have e : ((x.toBitVec.signExtend 8).signExtend 32).toNat % 256 = x.toBitVec.toNat % 256 := by
    rw [BitVec.toNat_signExtend]
    have hlt := x.toBitVec.isLt
    simp only [BitVec.toNat_setWidth, BitVec.toNat_signExtend]
    split <;> split <;> omega
  rw [← e]
  exact Nat.and_two_pow_sub_one_eq_mod _ 8
theorem pair_says {c : Int32} (h0 : ¬ c < 0) (h1 : ¬ 65535 < c) : pairCh (lo8 c) (hi8 c) = c := by
  rw [Int32.lt_iff_toInt_lt] at h0 h1
  have e0 : (0 : Int32).toInt = 0 := rfl
  have e1 : (65535 : Int32).toInt = 65535 := rfl
  have hc : c.toInt = c.toBitVec.toNat := by
    have := c.toBitVec.isLt
    have e : c.toInt = c.toBitVec.toInt := rfl
    rw [e] at h0 h1
    rw [e]
    rw [BitVec.toInt_eq_toNat_cond] at h0 h1 ⊢
    split at h0 <;> split <;> omega
  have hn : c.toBitVec.toNat < 65536 := by omega
  have a1 := lo8_and c
  have a2 : (hi8 c &&& 255).toBitVec.toNat = c.toBitVec.toNat / 256 := by
    rw [hi8, lo8_and]
    have e : ((8 : Int32) &&& 31) = 8 := by decide
    rw [e, Int32.toBitVec_shiftRight]
    have e2 : ((8 : Int32).toBitVec.smod 32) = 8#32 := by decide
    rw [e2, BitVec.sshiftRight_eq', BitVec.toNat_sshiftRight_of_msb_false (by rw [BitVec.msb_eq_false_iff_two_mul_lt]; omega)]
    show c.toBitVec.toNat >>> 8 % 256 = _
    rw [Nat.shiftRight_eq_div_pow]
    omega
  unfold pairCh
  apply Int32.toBitVec_inj.mp
  apply BitVec.eq_of_toNat_eq
  have f0 : ((0 : Int32) &&& 31) = 0 := by decide
  have f8 : ((8 : Int32) &&& 31) = 8 := by decide
  rw [f0, f8]
  have g : (((lo8 c &&& 255) <<< (0 : Int32)) ||| ((hi8 c &&& 255) <<< (8 : Int32))).toBitVec.toNat = c.toBitVec.toNat := by
    rw [Int32.toBitVec_or, Int32.toBitVec_shiftLeft, Int32.toBitVec_shiftLeft]
    have s0 : ((0 : Int32).toBitVec.smod 32) = 0#32 := by decide
    have s8 : ((8 : Int32).toBitVec.smod 32) = 8#32 := by decide
    rw [s0, s8, BitVec.toNat_or]
    simp only [BitVec.shiftLeft_eq', BitVec.toNat_shiftLeft, a1, a2]
    show (c.toBitVec.toNat % 256) <<< 0 % 2 ^ 32 ||| (c.toBitVec.toNat / 256) <<< 8 % 2 ^ 32 = _
    rw [Nat.shiftLeft_zero, Nat.mod_eq_of_lt (show c.toBitVec.toNat % 256 < 2 ^ 32 by omega), Nat.mod_eq_of_lt (show (c.toBitVec.toNat / 256) <<< 8 < 2 ^ 32 by rw [Nat.shiftLeft_eq]; omega), Nat.or_comm, ← Nat.shiftLeft_add_eq_or_of_lt (by omega), Nat.shiftLeft_eq]
    omega
  show BitVec.toNat (((((lo8 c &&& 255) <<< (0 : Int32)) ||| ((hi8 c &&& 255) <<< (8 : Int32))).toBitVec.setWidth 16).setWidth 32) = _
  rw [BitVec.toNat_setWidth, BitVec.toNat_setWidth, g]
  omega
end StrChars
namespace StrChars
open Jvm Sem ClassFile Op Lib Jvm.Stand Jvm.Free.XT Jvm.Free.ALB Jvm.Free.JM Jvm.Free
open Jvm.Lib.Cold (StaticIs)
theorem shr1 {n : Nat} (h : 2 * n < 2 ^ 31) : Int32.ofNat (2 * n) >>> ((1 : Int32) &&& 31) = Int32.ofNat n := by
  have e : ((1 : Int32) &&& 31) = 1 := by decide
  rw [e]
  apply Int32.toBitVec_inj.mp
  rw [Int32.toBitVec_shiftRight]
  have e1 : ((1 : Int32).toBitVec.smod 32) = 1#32 := by decide
  have hm : (BitVec.ofNat 32 (2 * n)).toNat = 2 * n := by rw [BitVec.toNat_ofNat, Nat.mod_eq_of_lt (by omega)]
  rw [e1, BitVec.sshiftRight_eq']
  apply BitVec.eq_of_toNat_eq
  show ((BitVec.ofNat 32 (2 * n)).sshiftRight 1).toNat = (BitVec.ofNat 32 n).toNat
  rw [BitVec.toNat_sshiftRight_of_msb_false (by rw [BitVec.msb_eq_false_iff_two_mul_lt, hm]; omega), hm, BitVec.toNat_ofNat, Nat.shiftRight_eq_div_pow]
  omega
/-- charAt's cast of a byte read back -/
def chr8 (u : Int32) : Int32 := (u &&& 255).toUInt32.toUInt16.toUInt32.toInt32
theorem chr8_lo8 {c : Int32} (h0 : ¬ c < 0) (h1 : ¬ 255 < c) : chr8 (lo8 c) = c := by
  have t : ∀ k : Fin 256, (Int32.ofNat k.val).toUInt32.toUInt16.toUInt32.toInt32 = Int32.ofNat k.val := by decide +kernel
  unfold chr8
  rw [lo8_mask h0 h1]
  rw [Int32.lt_iff_toInt_lt] at h0 h1
  have e0 : (0 : Int32).toInt = 0 := rfl
  have e1 : (255 : Int32).toInt = 255 := rfl
  obtain ⟨k, hk⟩ : ∃ k : Nat, c.toInt = k := ⟨c.toInt.toNat, by omega⟩
  have hx : c = Int32.ofNat k := Int32.toInt_inj.mp (by rw [hk, Int32.toInt_ofNat_small (by omega)])
  rw [hx]
  exact t ⟨k, by omega⟩
theorem narrow_ch {c : Int32} (h0 : ¬ c < 0) (h1 : ¬ 65535 < c) : narrow .char (.int c) = .int c := by
  have q : narrow .char (.int (pairCh (lo8 c) (hi8 c))) = .int (pairCh (lo8 c) (hi8 c)) := narrow_c _
  rwa [pair_says h0 h1] at q
/-- the array's cell V codes the n chars f 0 .. f (n - 1) by the coder cd, as the JDK does: coder 1 just where some char is above 255 -/
def Cod (cd : Int32) (n : Nat) (f : Nat → Int32) (V : Cell) : Prop := (cd = 0 ∧ V.slots.size = n ∧ ∀ j, j < n → V.slots[j]? = some (.int (lo8 (f j))) ∧ ¬ 255 < f j) ∨ (cd = 1 ∧ V.slots.size = 2 * n ∧ (∀ j, j < n → V.slots[2 * j]? = some (.int (lo8 (f j))) ∧ V.slots[2 * j + 1]? = some (.int (hi8 (f j)))) ∧ ∃ j, j < n ∧ 255 < f j)
theorem Cod.cd {cd : Int32} {n : Nat} {f : Nat → Int32} {V : Cell} (h : Cod cd n f V) : cd = 0 ∨ cd = 1 := h.imp (fun q => q.1) fun q => q.1
theorem Cod.len {cd : Int32} {n : Nat} {f : Nat → Int32} {V : Cell} (h : Cod cd n f V) (hs : V.slots.size < 2 ^ 31) : Int32.ofNat V.slots.size >>> (cd &&& 31) = Int32.ofNat n := by
  rcases h with ⟨rfl, h, -⟩ | ⟨rfl, h, -⟩
  · rw [shr0, h]
  · rw [h, shr1 (by omega)]
/-- **x is a String of the n chars f 0 .. f (n - 1)**, Latin-1 or UTF-16; its array at t has the cell V -/
def Txt (x t : Addr) (V : Cell) (cd : Int32) (n : Nat) (f : Nat → Int32) (U : State) : Prop := Exact "java/lang/String" x U ∧ Has x "java/lang/String" "value" "[B" (.ref t) U ∧ Has x "java/lang/String" "coder" "B" (.int cd) U ∧ XT.Arr .byte t V U ∧ Cod cd n f V ∧ ∀ j, j < n → ¬ f j < 0 ∧ ¬ 65535 < f j
theorem Txt.mv {x t : Addr} {V : Cell} {cd : Int32} {n : Nat} {f : Nat → Int32} {U U' : State} (h : Txt x t V cd n f U) (hal : U.vm.Alike U'.vm) (hh : U'.heap = U.heap) : Txt x t V cd n f U' := ⟨h.1.mv hal hh, h.2.1.mv hal hh, h.2.2.1.mv hal hh, h.2.2.2.1.mv hal hh, h.2.2.2.2⟩
namespace Cdr
def yN : MethodName := ⟨"java/lang/String", "coder", "()B"⟩
abbrev yB : ByteArray := jdk_42_method_152_code
theorem d0 : decode yB 0 = .ok (.getstatic 38, 3) := by decide +kernel
theorem d3 : decode yB 3 = .ok (.ifCond (.eq) 10, 3) := by decide +kernel
theorem d6 : decode yB 6 = .ok (.aload_n 0, 1) := by decide +kernel
theorem d7 : decode yB 7 = .ok (.getfield 15, 3) := by decide +kernel
theorem d10 : decode yB 10 = .ok (.goto 4, 3) := by decide +kernel
theorem d14 : decode yB 14 = .ok (.ireturn, 1) := by decide +kernel
def site : List Cond := [.fieldLink "java/lang/String" 38 "java/lang/String" "COMPACT_STRINGS" "Z", .fieldLink "java/lang/String" 15 "java/lang/String" "coder" "B"]
def tab : Cond := tabOf yN yB 1 (some .byte) site
def P (x : Addr) (cd z : Int32) (args : Array Value) (s : State) : Prop := args = #[.ref x] ∧ Has x "java/lang/String" "coder" "B" (.int cd) s ∧ (cd = 0 ∨ cd = 1) ∧ StaticIs s "java/lang/String" "COMPACT_STRINGS" "Z" (.int z) ∧ ¬ z = 0
def E (cd : Int32) (r : Option Value) (s u : State) : Prop := XT.PureE (some (.int cd)) r s u
theorem law (l : Launch) (x : Addr) (cd z : Int32) : Law l yN 1 0 0 0 yB 1 (some .byte) site (P x cd z) (E cd) [] 0 0 := by
  refine Law.of_walk (plainFor_of_name (by decide +kernel)) (by decide +kernel) (by decide +kernel) (by decide) (fun _ _ h => by rw [h.1]; rfl) (fun _ U U' hal hh h => ⟨h.1, h.2.1.mv hal hh, h.2.2.1, h.2.2.2.1.there hal hh, h.2.2.2.2⟩) (fun r U U' V V' h1 hal h2 h => XT.PureE.mv r U U' V V' h1 hal h2 h) ?_
  intro p e s m args below meth c s₁ X0 hexec hbytes hml hret hlk hnm hown hh0 W hP
  obtain ⟨rfl, hx, hc, s1, hz⟩ := hP
  have c1 : Steps p.tables e below (s₁.setTop (entryFrame m #[.ref x] 1)) (s₁.setTop (mkF m 0 #[.val (.ref x)] [])) := entry rfl
  obtain ⟨T2, X2, q2, st2⟩ := X0.sget hexec hown (wk W (.fieldLink "java/lang/String" 38 "java/lang/String" "COMPACT_STRINGS" "Z")) s1 (fun _ _ h => by rw [hh0]; exact h) (g := (mkF m 0 #[.val (.ref x)] [])) rfl (hb hbytes d0)
  have hh2 := q2.trans hh0
  have c3 : Steps p.tables e below (s₁.setTop (entryFrame m #[.ref x] 1)) (T2.setTop (mkF m 7 #[.val (.ref x)] [.ref x])) := (c1.trans (st2 _ (Steps.refl _))).trans (by
    refine XS.ifNo X2.here hexec rfl (hb hbytes d3) rfl (i0_eq_f hz) ?_
    refine XS.aloadN X2.here hexec rfl (hb hbytes d6) rfl rfl ?_
    exact Steps.refl _)
  obtain ⟨T4, X4, q4, st4⟩ := X2.hget hexec hown (wk W (.fieldLink "java/lang/String" 15 "java/lang/String" "coder" "B")) (hx.mv X2.warmed.alike hh2) (g := (mkF m 7 #[.val (.ref x)] [.ref x])) rfl (rest := []) rfl (hb hbytes d7)
  have c5 : Steps p.tables e below (s₁.setTop (entryFrame m #[.ref x] 1)) (T4.setTop (mkF m 14 #[.val (.ref x)] [.int cd])) := (c3.trans (st4 _ (Steps.refl _))).trans (by
    refine XS.goto X4.here hexec rfl (pc0 := 10) rfl (hb hbytes d10) (by decide) rfl ?_
    exact Steps.refl _)
  exact ⟨T4, some (.int cd), _, _, _, X4, rfl, rfl, rfl, (fun h => by cases h), ⟨rfl, q4.trans hh2⟩, fun fs hl => c5.trans (X4.ireturnOut hexec hret (by rcases hc with rfl | rfl <;> rfl) (Or.inr (Or.inr (Or.inl rfl))) (hb hbytes d14) hl)⟩
end Cdr
namespace Len
def yN : MethodName := ⟨"java/lang/String", "length", "()I"⟩
abbrev yB : ByteArray := jdk_42_method_54_code
theorem d0 : decode yB 0 = .ok (.aload_n 0, 1) := by decide +kernel
theorem d1 : decode yB 1 = .ok (.getfield 9, 3) := by decide +kernel
theorem d4 : decode yB 4 = .ok (.arraylength, 1) := by decide +kernel
theorem d5 : decode yB 5 = .ok (.aload_n 0, 1) := by decide +kernel
theorem d6 : decode yB 6 = .ok (.invokevirtual 335, 3) := by decide +kernel
theorem d9 : decode yB 9 = .ok (.ishr, 1) := by decide +kernel
theorem d10 : decode yB 10 = .ok (.ireturn, 1) := by decide +kernel
def site : List Cond := [.fieldLink "java/lang/String" 9 "java/lang/String" "value" "[B", Cdr.tab] ++ virtW "java/lang/String" 335 "java/lang/String" Cdr.yN Cdr.yN
def tab : Cond := tabOf yN yB 1 (some .int) site
def P (x t : Addr) (V : Cell) (cd : Int32) (n : Nat) (f : Nat → Int32) (z : Int32) (args : Array Value) (s : State) : Prop := args = #[.ref x] ∧ Txt x t V cd n f s ∧ StaticIs s "java/lang/String" "COMPACT_STRINGS" "Z" (.int z) ∧ ¬ z = 0
def E (n : Nat) (r : Option Value) (s u : State) : Prop := XT.PureE (some (.int (Int32.ofNat n))) r s u
/-- length() of a String of n chars, in either coding -/
theorem law (l : Launch) (x t : Addr) (V : Cell) (cd : Int32) (n : Nat) (f : Nat → Int32) (z : Int32) : Law l yN 1 0 1 13 yB 1 (some .int) site (P x t V cd n f z) (E n) [] 0 0 := by
  refine Law.of_walk (plainFor_of_name (by decide +kernel)) (by decide +kernel) (by decide +kernel) (by decide) (fun _ _ h => by rw [h.1]; rfl) (fun _ U U' hal hh h => ⟨h.1, h.2.1.mv hal hh, h.2.2.1.there hal hh, h.2.2.2⟩) (fun r U U' V V' h1 hal h2 h => XT.PureE.mv r U U' V V' h1 hal h2 h) ?_
  intro p e s m args below meth c s₁ X0 hexec hbytes hml hret hlk hnm hown hh0 W hP
  obtain ⟨rfl, hx, s1, hz⟩ := hP
  have v31 := hx.2.2.2.1.2.2.2
  have c1 : Steps p.tables e below (s₁.setTop (entryFrame m #[.ref x] 1)) (s₁.setTop (mkF m 1 #[.val (.ref x)] [.ref x])) := Steps.trans (entry rfl) (by
    show Steps p.tables e below (s₁.setTop (mkF m 0 #[.val (.ref x)] [])) _
    refine XS.aloadN X0.here hexec rfl (hb hbytes d0) rfl rfl ?_
    exact Steps.refl _)
  obtain ⟨T2, X2, q2, st2⟩ := X0.hget hexec hown (wk W (.fieldLink "java/lang/String" 9 "java/lang/String" "value" "[B")) (hx.mv X0.warmed.alike hh0).2.1 (g := (mkF m 1 #[.val (.ref x)] [.ref x])) rfl (rest := []) rfl (hb hbytes d1)
  have hh2 := q2.trans hh0
  have hx2 := hx.mv X2.warmed.alike hh2
  have c3 : Steps p.tables e below (s₁.setTop (entryFrame m #[.ref x] 1)) (T2.setTop (mkF m 6 #[.val (.ref x)] [.ref x, .int (Int32.ofNat V.slots.size)])) := (c1.trans (st2 _ (Steps.refl _))).trans (by
    refine X2.alen hexec hx2.2.2.2.1 rfl rfl (hb hbytes d4) ?_
    refine XS.aloadN X2.here hexec rfl (hb hbytes d5) rfl rfl ?_
    exact Steps.refl _)
  obtain ⟨v4, T4, X4, E4, g4⟩ := X2.callV hexec (Cdr.law l x cd z) hown (wks W (virtW "java/lang/String" 335 "java/lang/String" Cdr.yN Cdr.yN)) rfl (by decide) (wk W Cdr.tab) (W := 1) (Nat.le_of_ble_eq_true rfl) (Nat.le_of_ble_eq_true rfl) (Nat.le_refl _) (Nat.le_refl _) (hx2.1.fc X2.warmed.alike) hx2.1.is (g := (mkF m 6 #[.val (.ref x)] [.ref x, .int (Int32.ofNat V.slots.size)])) rfl (by rw [hml]; rfl) c3 (argsL := []) (rest := [.int (Int32.ofNat V.slots.size)]) rfl rfl (by show 2 * 0 + (1 + 0) ≤ _; decide) (hb hbytes d6) (⟨rfl, hx2.2.2.1, hx.2.2.2.2.1.cd, s1.there X2.warmed.alike hh2, hz⟩)
  obtain ⟨rfl, q4⟩ := E4
  have c5 : Steps p.tables e below (s₁.setTop (entryFrame m #[.ref x] 1)) (T4.setTop (mkF m 10 #[.val (.ref x)] [.int (Int32.ofNat V.slots.size >>> (cd &&& 31))])) := Steps.trans g4 (by
    refine ishr X4.here hexec rfl (hb hbytes d9) rfl ?_
    exact Steps.refl _)
  rw [hx.2.2.2.2.1.len v31] at c5
  exact ⟨T4, some (.int (Int32.ofNat n)), _, _, _, X4, rfl, rfl, rfl, (fun h => by cases h), ⟨rfl, q4.trans hh2⟩, fun fs hl => c5.trans (X4.ireturnOut hexec hret rfl (Or.inl rfl) (hb hbytes d10) hl)⟩
theorem pays {l : Launch} {R : Room} {p : Program} {e : Env} {below : List Frame} {s : State} {sargs : Array Value} {len W : Nat} (x t : Addr) (V : Cell) (cd : Int32) (n : Nat) (f : Nat → Int32) (z : Int32) (htab : tab.before sargs s = true) (hfr : 2 ≤ R.frames) (hlo : W + 25 ≤ R.locals) :
    Back l R p e below s sargs yN len W (fun A₁ a₁ => A₁.cells + 0 ≤ R.cells ∧ A₁.slots + 0 ≤ R.slots ∧ P x t V cd n f z a₁ A₁.U) (fun A₁ _ v₁ B₁ => E n v₁ A₁.U B₁.U ∧ B₁.locs = A₁.locs ++ [] ∧ B₁.cells = A₁.cells + 0 ∧ B₁.slots = A₁.slots + 0) :=
  (law l x t V cd n f z).pays htab hfr (by omega)
end Len
namespace IsL
def yN : MethodName := ⟨"java/lang/String", "isLatin1", "()Z"⟩
abbrev yB : ByteArray := jdk_42_method_154_code
theorem d0 : decode yB 0 = .ok (.getstatic 38, 3) := by decide +kernel
theorem d3 : decode yB 3 = .ok (.ifCond (.eq) 14, 3) := by decide +kernel
theorem d6 : decode yB 6 = .ok (.aload_n 0, 1) := by decide +kernel
theorem d7 : decode yB 7 = .ok (.getfield 15, 3) := by decide +kernel
theorem d10 : decode yB 10 = .ok (.ifCond (.ne) 7, 3) := by decide +kernel
theorem d13 : decode yB 13 = .ok (.iconst 1, 1) := by decide +kernel
theorem d14 : decode yB 14 = .ok (.goto 4, 3) := by decide +kernel
theorem d17 : decode yB 17 = .ok (.iconst 0, 1) := by decide +kernel
theorem d18 : decode yB 18 = .ok (.ireturn, 1) := by decide +kernel
def site : List Cond := [.fieldLink "java/lang/String" 38 "java/lang/String" "COMPACT_STRINGS" "Z", .fieldLink "java/lang/String" 15 "java/lang/String" "coder" "B"]
def tab : Cond := tabOf yN yB 1 (some .boolean) site
def P (x : Addr) (cd z : Int32) (args : Array Value) (s : State) : Prop := args = #[.ref x] ∧ Has x "java/lang/String" "coder" "B" (.int cd) s ∧ (cd = 0 ∨ cd = 1) ∧ StaticIs s "java/lang/String" "COMPACT_STRINGS" "Z" (.int z) ∧ ¬ z = 0
def E (cd : Int32) (r : Option Value) (s u : State) : Prop := XT.PureE (some (.int (1 - cd))) r s u
theorem law (l : Launch) (x : Addr) (cd z : Int32) : Law l yN 1 0 0 0 yB 1 (some .boolean) site (P x cd z) (E cd) [] 0 0 := by
  refine Law.of_walk (plainFor_of_name (by decide +kernel)) (by decide +kernel) (by decide +kernel) (by decide) (fun _ _ h => by rw [h.1]; rfl) (fun _ U U' hal hh h => ⟨h.1, h.2.1.mv hal hh, h.2.2.1, h.2.2.2.1.there hal hh, h.2.2.2.2⟩) (fun r U U' V V' h1 hal h2 h => XT.PureE.mv r U U' V V' h1 hal h2 h) ?_
  intro p e s m args below meth c s₁ X0 hexec hbytes hml hret hlk hnm hown hh0 W hP
  obtain ⟨rfl, hx, hc, s1, hz⟩ := hP
  have c1 : Steps p.tables e below (s₁.setTop (entryFrame m #[.ref x] 1)) (s₁.setTop (mkF m 0 #[.val (.ref x)] [])) := entry rfl
  obtain ⟨T2, X2, q2, st2⟩ := X0.sget hexec hown (wk W (.fieldLink "java/lang/String" 38 "java/lang/String" "COMPACT_STRINGS" "Z")) s1 (fun _ _ h => by rw [hh0]; exact h) (g := (mkF m 0 #[.val (.ref x)] [])) rfl (hb hbytes d0)
  have hh2 := q2.trans hh0
  have c3 : Steps p.tables e below (s₁.setTop (entryFrame m #[.ref x] 1)) (T2.setTop (mkF m 7 #[.val (.ref x)] [.ref x])) := (c1.trans (st2 _ (Steps.refl _))).trans (by
    refine XS.ifNo X2.here hexec rfl (hb hbytes d3) rfl (i0_eq_f hz) ?_
    refine XS.aloadN X2.here hexec rfl (hb hbytes d6) rfl rfl ?_
    exact Steps.refl _)
  obtain ⟨T4, X4, q4, st4⟩ := X2.hget hexec hown (wk W (.fieldLink "java/lang/String" 15 "java/lang/String" "coder" "B")) (hx.mv X2.warmed.alike hh2) (g := (mkF m 7 #[.val (.ref x)] [.ref x])) rfl (rest := []) rfl (hb hbytes d7)
  have c5 : Steps p.tables e below (s₁.setTop (entryFrame m #[.ref x] 1)) (T4.setTop (mkF m 10 #[.val (.ref x)] [.int cd])) := c3.trans (st4 _ (Steps.refl _))
  have c6 : Steps p.tables e below (s₁.setTop (entryFrame m #[.ref x] 1)) (T4.setTop (mkF m 18 #[.val (.ref x)] [.int (1 - cd)])) := by
    rcases hc with rfl | rfl
    · exact c5.trans (by
        refine XS.ifNo X4.here hexec rfl (hb hbytes d10) rfl (i0_ne_f rfl) ?_
        refine iconstV X4.here hexec rfl 1 (hb hbytes d13) (by decide) ?_
        refine XS.goto X4.here hexec rfl (pc0 := 14) rfl (hb hbytes d14) (by decide) rfl ?_
        exact Steps.refl _)
    · exact c5.trans (by
        refine XS.ifYes X4.here hexec rfl (pc0 := 10) rfl (hb hbytes d10) rfl (i0_ne_t (by decide)) (by decide) rfl ?_
        refine iconstV X4.here hexec rfl 0 (hb hbytes d17) (by decide) ?_
        exact Steps.refl _)
  exact ⟨T4, some (.int (1 - cd)), _, _, _, X4, rfl, rfl, rfl, (fun h => by cases h), ⟨rfl, q4.trans hh2⟩, fun fs hl => c6.trans (X4.ireturnOut hexec hret (by rcases hc with rfl | rfl <;> rfl) (Or.inr (Or.inl rfl)) (hb hbytes d18) hl)⟩
end IsL
namespace LChA
def yN : MethodName := ⟨"java/lang/StringLatin1", "charAt", "([BI)C"⟩
abbrev yB : ByteArray := jdk_43_method_2_code
theorem d0 : decode yB 0 = .ok (.iload_n 1, 1) := by decide +kernel
theorem d1 : decode yB 1 = .ok (.aload_n 0, 1) := by decide +kernel
theorem d2 : decode yB 2 = .ok (.arraylength, 1) := by decide +kernel
theorem d3 : decode yB 3 = .ok (.invokestatic 9, 3) := by decide +kernel
theorem d6 : decode yB 6 = .ok (.aload_n 0, 1) := by decide +kernel
theorem d7 : decode yB 7 = .ok (.iload_n 1, 1) := by decide +kernel
theorem d8 : decode yB 8 = .ok (.baload, 1) := by decide +kernel
theorem d9 : decode yB 9 = .ok (.sipush 255, 3) := by decide +kernel
theorem d12 : decode yB 12 = .ok (.iand, 1) := by decide +kernel
theorem d13 : decode yB 13 = .ok (.i2c, 1) := by decide +kernel
theorem d14 : decode yB 14 = .ok (.ireturn, 1) := by decide +kernel
def site : List Cond := [JO.Str_checkIndex.tab] ++ staticW "java/lang/StringLatin1" 9 JO.Str_checkIndex.yN
def tab : Cond := tabOf yN yB 2 (some .char) site
def P (t : Addr) (V : Cell) (i : Nat) (u : Int32) (fm : Value) (args : Array Value) (s : State) : Prop := args = #[.ref t, .int (Int32.ofNat i)] ∧ XT.Arr .byte t V s ∧ V.slots[i]? = some (.int u) ∧ (StaticIs s "jdk/internal/util/Preconditions" "SIOOBE_FORMATTER" "Ljava/util/function/BiFunction;" fm ∧ fm.isRef = true)
def E (u : Int32) (r : Option Value) (s w : State) : Prop := XT.PureE (some (.int (chr8 u))) r s w
theorem law (l : Launch) (t : Addr) (V : Cell) (i : Nat) (u : Int32) (fm : Value) : Law l yN 2 2 2 27 yB 2 (some .char) site (P t V i u fm) (E u) [] 0 0 := by
  refine Law.of_walk (plainFor_of_name (by decide +kernel)) (by decide +kernel) (by decide +kernel) (by decide) (fun _ _ h => by rw [h.1]; rfl) (fun _ U U' hal hh h => ⟨h.1, h.2.1.mv hal hh, h.2.2.1, h.2.2.2.1.there hal hh, h.2.2.2.2⟩) (fun r U U' V V' h1 hal h2 h => XT.PureE.mv r U U' V V' h1 hal h2 h) ?_
  intro p e s m args below meth c s₁ X0 hexec hbytes hml hret hlk hnm hown hh0 W hP
  obtain ⟨rfl, hV, hu, s1, rf⟩ := hP
  have v31 := hV.2.2.2
  have hi : i < V.slots.size := (Array.getElem?_eq_some_iff.mp hu).1
  have c1 : Steps p.tables e below (s₁.setTop (entryFrame m #[.ref t, .int (Int32.ofNat i)] 2)) (s₁.setTop (mkF m 0 #[.val (.ref t), .val (.int (Int32.ofNat i))] [])) := entry rfl
  have c2 : Steps p.tables e below (s₁.setTop (entryFrame m #[.ref t, .int (Int32.ofNat i)] 2)) (s₁.setTop (mkF m 3 #[.val (.ref t), .val (.int (Int32.ofNat i))] [.int (Int32.ofNat V.slots.size), .int (Int32.ofNat i)])) := c1.trans (by
    refine XS.iloadN X0.here hexec rfl (hb hbytes d0) rfl ?_
    refine XS.aloadN X0.here hexec rfl (hb hbytes d1) rfl rfl ?_
    refine X0.alen hexec (hV.mv X0.warmed.alike hh0) rfl rfl (hb hbytes d2) ?_
    exact Steps.refl _)
  obtain ⟨v3, T3, X3, E3, g3⟩ := X0.callS hexec (JO.Str_checkIndex.law l (Int32.ofNat i) (Int32.ofNat V.slots.size) fm) hown (wks W (staticW "java/lang/StringLatin1" 9 JO.Str_checkIndex.yN)) (wk W JO.Str_checkIndex.tab) (W := 0) (Nat.le_of_ble_eq_true rfl) (Nat.le_of_ble_eq_true rfl) (Nat.le_refl _) (Nat.le_refl _) (g := (mkF m 3 #[.val (.ref t), .val (.int (Int32.ofNat i))] [.int (Int32.ofNat V.slots.size), .int (Int32.ofNat i)])) rfl (by rw [hml]; rfl) c2 (argsL := [.int (Int32.ofNat i), .int (Int32.ofNat V.slots.size)]) (rest := []) rfl rfl (by show 2 * 0 + 0 ≤ _; decide) (hb hbytes d3) (⟨rfl, rf, s1.there X0.warmed.alike hh0, Int32.ofNat_not_neg (by omega), lt32 v31 hi⟩)
  obtain ⟨rfl, q3⟩ := E3
  have hh3 := q3.trans hh0
  have c4 : Steps p.tables e below (s₁.setTop (entryFrame m #[.ref t, .int (Int32.ofNat i)] 2)) (T3.setTop (mkF m 14 #[.val (.ref t), .val (.int (Int32.ofNat i))] [.int (chr8 u)])) := Steps.trans g3 (by
    refine XS.aloadN X3.here hexec rfl (hb hbytes d6) rfl rfl ?_
    refine XS.iloadN X3.here hexec rfl (hb hbytes d7) rfl ?_
    refine X3.aget hexec (hV.mv X3.warmed.alike hh3) rfl hu rfl rfl (hb hbytes d8) ?_
    refine sipushV X3.here hexec rfl 255 (hb hbytes d9) (by decide) ?_
    refine XS.iand X3.here hexec rfl (hb hbytes d12) rfl ?_
    refine i2c X3.here hexec rfl (hb hbytes d13) rfl ?_
    exact Steps.refl _)
  exact ⟨T3, some (.int (chr8 u)), _, _, _, X3, rfl, rfl, rfl, (fun h => by cases h), ⟨rfl, hh3⟩, fun fs hl => c4.trans (X3.ireturnOut hexec hret (narrow_c _) (Or.inr (Or.inr (Or.inr (Or.inl rfl)))) (hb hbytes d14) hl)⟩
end LChA
end StrChars
namespace StrChars.Road
open Jvm Sem ClassFile Op Lib Jvm.Stand Jvm.Free Jvm.Free.XT
open Jvm.Lib.Cold (StaticIs)
theorem consq {a : Array Value} {s : State} {c : Jvm.Cond} {L : List Jvm.Cond} (h0 : c.before a s = true) (h : ∀ w ∈ L, w.before a s = true) : ∀ w ∈ c :: L, w.before a s = true := fun w hw => (List.mem_cons.mp hw).elim (fun e => e ▸ h0) (h w)
/-- the words of String.length(), either coding -/
abbrev wordsLen : List Jvm.Cond := [.code Len.yN Len.yB 1 (some .int), .initialized ST, .fieldLink ST 9 ST "value" "[B", .fieldLink ST 38 ST "COMPACT_STRINGS" "Z", .fieldLink ST 15 ST "coder" "B", .code Cdr.yN Cdr.yB 1 (some .byte), .methodLink ST 335 Cdr.yN, .declares Cdr.yN, .selects ST Cdr.yN Cdr.yN, .instanceMethod Cdr.yN]
theorem tabLen_of {a : Array Value} {s : State} (h : ∀ w ∈ wordsLen, w.before a s = true) : Len.tab.before a s = true := by
  have hc : Cdr.tab.before a s = true := unparts (wk h (.code Cdr.yN Cdr.yB 1 (some .byte))) (wks h (.initialized Cdr.yN.cls :: Cdr.site))
  have q := consq hc h
  exact unparts (wk q (.code Len.yN Len.yB 1 (some .int))) (wks q (.initialized Len.yN.cls :: Len.site))
theorem movedLen {Z s : State} {a0 args : Array Value} (hZ : Z.Warmed39 s.vm) (hw : ∀ d ∈ wordsLen, d.before a0 Z = true) : ∀ d ∈ wordsLen, d.before args s = true := fun d hd => by
  have q := hw d hd
  have t : ∀ d ∈ wordsLen, d = .arrayClass .byte ∨ (d.onTables && d.keepsFace) = true := by decide +kernel
  rcases t d hd with rfl | t
  · exact RoadKit.mvA hZ q
  · exact RoadKit.mv hZ q t
/-- the bytes of the chars cs, low before high -/
def wideBytes : List Int32 → List Value
  | [] => []
  | c :: cs => .int (lo8 c) :: .int (hi8 c) :: wideBytes cs
theorem wide_lo (d : Value) : ∀ (cs : List Int32) (j : Nat), j < cs.length → (wideBytes cs).getD (2 * j) d = .int (lo8 (cs.getD j 0))
  | [], j, h => absurd h (Nat.not_lt_zero j)
  | c :: cs, 0, _ => rfl
  | c :: cs, j + 1, h => by
    have q := wide_lo d cs j (by simpa using h)
    rw [show 2 * (j + 1) = 2 * j + 1 + 1 from by omega]
    simpa [wideBytes] using q
theorem wide_hi (d : Value) : ∀ (cs : List Int32) (j : Nat), j < cs.length → (wideBytes cs).getD (2 * j + 1) d = .int (hi8 (cs.getD j 0))
  | [], j, h => absurd h (Nat.not_lt_zero j)
  | c :: cs, 0, _ => rfl
  | c :: cs, j + 1, h => by
    have q := wide_hi d cs j (by simpa using h)
    rw [show 2 * (j + 1) + 1 = 2 * j + 1 + 1 + 1 from by omega]
    simpa [wideBytes] using q
theorem low_at (d : Value) (cs : List Int32) (j : Nat) (h : j < cs.length) : (cs.map fun c => Value.int (lo8 c)).getD j d = .int (lo8 (cs.getD j 0)) := by
  simp [List.getD_eq_getElem?_getD, h]
/-- an array of N2 bytes vs codes the chars cs by the coder cd -/
def CodA (cs : List Int32) (cd N2 : Int32) (vs : List Value) : Prop := (cd = 0 ∧ N2 = Int32.ofNat cs.length ∧ vs = (cs.map fun c => Value.int (lo8 c)) ∧ ∀ c ∈ cs, ¬ 255 < c) ∨ (cd = 1 ∧ N2 = Int32.ofNat (2 * cs.length) ∧ vs = wideBytes cs ∧ ∃ c ∈ cs, 255 < c)
theorem CodA.cod {cs : List Int32} {cd N2 : Int32} {vs : List Value} {V : Cell} (h : CodA cs cd N2 vs) (hn : 2 * cs.length < 2 ^ 31) (hs : V.slots.size = N2.toNatClampNeg) (hv : RoadKit.Has V vs (.int 0)) : Cod cd cs.length (fun j => cs.getD j 0) V := by
  rcases h with ⟨rfl, rfl, rfl, h⟩ | ⟨rfl, rfl, rfl, c, hc, hw⟩
  · rw [n32 (by omega)] at hs
    exact Or.inl ⟨rfl, hs, fun j hj => ⟨by rw [hv j (by omega), low_at _ _ _ hj], by
      have e : cs.getD j 0 = cs[j] := by simp [List.getD_eq_getElem?_getD, hj]
      show ¬ 255 < cs.getD j 0
      rw [e]; exact h _ (List.getElem_mem _)⟩⟩
  · rw [n32 (by omega)] at hs
    obtain ⟨j, hj, rfl⟩ := List.getElem_of_mem hc
    exact Or.inr ⟨rfl, hs, fun j hj => ⟨by rw [hv _ (by omega), wide_lo _ _ _ hj], by rw [hv _ (by omega), wide_hi _ _ _ hj]⟩, j, hj, by
      have e : cs.getD j 0 = cs[j] := by simp [List.getD_eq_getElem?_getD, hj]
      show 255 < cs.getD j 0
      rw [e]; exact hw⟩
/-- an object of exactly java/lang/String, its two fields found: as the laws ask it -/
theorem strObj {Z U : State} {a0 : Array Value} {kI : Nat} (wi : (Jvm.Cond.instantiable ST kI).before a0 Z = true) (al : Z.vm.Alike U.vm) {x : Addr} {v0 c0 : Value} (E : RoadKit.Exa Z U.heap x ST) (V : RoadKit.Fld Z U.heap x ST "value" "[B" v0) (C : RoadKit.Fld Z U.heap x ST "coder" "B" c0) :
    ∃ (D : Cell) (fV fC : Field), Blank ST x D U ∧ Found ST "value" "[B" fV U ∧ Found ST "coder" "B" fC U ∧ D.slots[fV.slot]? = some v0 ∧ D.slots[fC.slot]? = some c0 ∧ RoadKit.slotOf Z ST "value" "[B" = fV.slot ∧ RoadKit.slotOf Z ST "coder" "B" = fC.slot := by
  obtain ⟨D, cfV, kV, iV, fV, hD, gV, stV, knV, obV, asV, slV⟩ := V
  obtain ⟨D', cfC, kC, iC, fC, hD', gC, stC, -, -, asC, slC⟩ := C
  cases hD.symm.trans hD'
  obtain ⟨D2, kD, e1, e2, e3, e4, e5⟩ := E
  cases hD.symm.trans e1
  obtain ⟨c2, k2, i1, i2, i3, -⟩ := Cond.instantiable_spec wi
  cases e2.symm.trans i1
  cases e3.symm.trans i2
  obtain ⟨kU, u1, u2⟩ := al.2.2 _ _ e3
  exact ⟨D, fV, fC, ⟨hD, ⟨knV, fun q hq => by rw [hq] at obV; cases obV⟩, by rw [al.findClass]; exact e2, kU, u1, by rw [u2]; exact i3, by rw [u2]; exact e5 i3⟩, ⟨SBG.found_only al ⟨cfV, kV, iV, gV⟩, stV⟩, ⟨SBG.found_only al ⟨cfC, kC, iC, gC⟩, stC⟩, slV, slC, by simp [RoadKit.slotOf, gV], by simp [RoadKit.slotOf, gC]⟩
theorem sta_is {Z U : State} (al : Z.vm.Alike U.vm) {C n d : String} {v : Value} (S : RoadKit.Sta Z U.heap C n d v) : StaticIs U C n d v := by
  obtain ⟨cfS, iS, kS, fS, st, cS, t1, t2, t3, t4, t5, t6, t7⟩ := S
  exact StaticIs.there (s := { Z with heap := U.heap }) ⟨cfS, iS, kS, fS, st, cS, t1, t2, t3, t4, t5, (fun q => by rw [q] at t6; cases t6), t7⟩ al rfl
/-- **length() OF SUCH A STRING** -/
theorem lenW {p : Program} {l : Launch} {e : Env} {R : Room} {s : State} {args : Array Value} {below : List Frame} {len W : Nat} {Z : State} {a0 : Array Value} {h : Heap} (hZ : Z.Warmed39 s.vm) (hw : ∀ d ∈ wordsLen, d.before a0 Z = true) {kI : Nat} (wi : (Jvm.Cond.instantiable ST kI).before a0 Z = true)
    {x t : Addr} {kb : ClassId} {cs : List Int32} {cd N2 z : Int32} {vs : List Value} (E : RoadKit.Exa Z h x ST) (V : RoadKit.Fld Z h x ST "value" "[B" (.ref t)) (C : RoadKit.Fld Z h x ST "coder" "B" (.int cd)) (K : RoadKit.Arv Z h t kb .byte N2 vs (.int 0)) (hc : CodA cs cd N2 vs) (hb : ∀ c ∈ cs, ¬ c < 0 ∧ ¬ (65535 : Int32) < c)
    (S : RoadKit.Sta Z h ST "COMPACT_STRINGS" "Z" (.int z)) (hz : ¬ z = 0) (l2 : cs.length ≤ 4000) (hfr : 2 ≤ R.frames) (hlo : W + 25 ≤ R.locals) :
    Back l R p e below s args (⟨"java/lang/String", "length", "()I"⟩ : MethodName) len W (fun P a => a = #[.ref x] ∧ P.U.heap = h ∧ P.cells + 0 ≤ R.cells ∧ P.slots + 0 ≤ R.slots)
      (fun P _ v B => ∃ L, (v = some (.int (Int32.ofNat cs.length)) ∧ L = [] ∧ B.U.heap = h) ∧ B.locs = P.locs ++ L ∧ B.cells = P.cells + 0 ∧ B.slots = P.slots + 0) := by
  obtain ⟨A, K1, K2, K3, K4, K5, K6⟩ := K
  have hcod := hc.cod (by omega) K3 K5
  intro m meth c P g ig mk a X hg hsize hdg hW hn hp'
  obtain ⟨rfl, rfl, r1, r2⟩ := hp'
  have al : Z.vm.Alike P.U.vm := hZ.alike.trans X.warmed.alike
  obtain ⟨D, fV, fC, hB, F1, F2, g1, g2, -, -⟩ := strObj wi al E V C
  have hx : Txt x t A cd cs.length (fun j => cs.getD j 0) P.U := ⟨⟨_, hB.2.2.1, D, hB.1, rfl, by cases q : D.vm <;> first | rfl | exact absurd q (hB.2.1.2 _)⟩, Has.of hB F1 g1, Has.of hB F2 g2, ⟨K1.1, State.isArrayOf_alike al K1.2.1, K1.2.2, by rcases hcod with ⟨-, q, -⟩ | ⟨-, q, -⟩ <;> omega⟩, hcod, fun j hj => by
    have e : cs.getD j 0 = cs[j] := by simp [List.getD_eq_getElem?_getD, hj]
    show ¬ cs.getD j 0 < 0 ∧ ¬ 65535 < cs.getD j 0
    rw [e]; exact hb _ (List.getElem_mem _)⟩
  obtain ⟨v, B, X', ⟨⟨hv, hh⟩, hl, hk, hs⟩, st⟩ := Len.pays x t A cd cs.length (fun j => cs.getD j 0) z (tabLen_of (movedLen hZ hw)) hfr hlo m meth c P g ig mk _ X hg hsize hdg hW hn ⟨r1, r2, rfl, hx, sta_is al S, hz⟩
  exact ⟨v, B, X', ⟨[], ⟨hv, rfl, hh⟩, hl, hk, hs⟩, st⟩
end StrChars.Road
namespace StrChars.Road
open Jvm Sem ClassFile Op Lib Jvm.Stand Jvm.Free Jvm.Free.XT
open Jvm.Lib.Cold (StaticIs)
/-- the road's facts of a String, as the laws ask it -/
theorem txt_of {Z U : State} {a0 : Array Value} {kI : Nat} (wi : (Jvm.Cond.instantiable ST kI).before a0 Z = true) (al : Z.vm.Alike U.vm) {x t : Addr} {kb : ClassId} {cs : List Int32} {cd N2 : Int32} {vs : List Value} (E : RoadKit.Exa Z U.heap x ST) (V : RoadKit.Fld Z U.heap x ST "value" "[B" (.ref t)) (C : RoadKit.Fld Z U.heap x ST "coder" "B" (.int cd)) (K : RoadKit.Arv Z U.heap t kb .byte N2 vs (.int 0)) (hc : CodA cs cd N2 vs) (hb : ∀ c ∈ cs, ¬ c < 0 ∧ ¬ (65535 : Int32) < c) (l2 : cs.length ≤ 4000) :
    ∃ A, Txt x t A cd cs.length (fun j => cs.getD j 0) U := by
  obtain ⟨A, K1, K2, K3, K4, K5, K6⟩ := K
  have hcod := hc.cod (by omega) K3 K5
  obtain ⟨D, fV, fC, hB, F1, F2, g1, g2, -, -⟩ := strObj wi al E V C
  exact ⟨A, ⟨_, hB.2.2.1, D, hB.1, rfl, by cases q : D.vm <;> first | rfl | exact absurd q (hB.2.1.2 _)⟩, Has.of hB F1 g1, Has.of hB F2 g2, ⟨K1.1, State.isArrayOf_alike al K1.2.1, K1.2.2, by rcases hcod with ⟨-, q, -⟩ | ⟨-, q, -⟩ <;> omega⟩, hcod, fun j hj => by
    have e : cs.getD j 0 = cs[j] := by simp [List.getD_eq_getElem?_getD, hj]
    show ¬ cs.getD j 0 < 0 ∧ ¬ 65535 < cs.getD j 0
    rw [e]; exact hb _ (List.getElem_mem _)⟩
end StrChars.Road
namespace StrChars
open Jvm Sem ClassFile Op Lib Jvm.Stand Jvm.Free.XT Jvm.Free.ALB Jvm.Free.JM Jvm.Free
open Jvm.Lib.Cold (StaticIs)
namespace ChN
def yN : MethodName := ⟨"java/lang/String", "charAt", "(I)C"⟩
abbrev yB : ByteArray := jdk_42_method_56_code
theorem d0 : decode yB 0 = .ok (.aload_n 0, 1) := by decide +kernel
theorem d1 : decode yB 1 = .ok (.invokevirtual 492, 3) := by decide +kernel
theorem d4 : decode yB 4 = .ok (.ifCond (.eq) 12, 3) := by decide +kernel
theorem d7 : decode yB 7 = .ok (.aload_n 0, 1) := by decide +kernel
theorem d8 : decode yB 8 = .ok (.getfield 9, 3) := by decide +kernel
theorem d11 : decode yB 11 = .ok (.iload_n 1, 1) := by decide +kernel
theorem d12 : decode yB 12 = .ok (.invokestatic 495, 3) := by decide +kernel
theorem d15 : decode yB 15 = .ok (.ireturn, 1) := by decide +kernel
def site : List Cond := [.fieldLink "java/lang/String" 9 "java/lang/String" "value" "[B", IsL.tab, LChA.tab] ++ virtW "java/lang/String" 492 "java/lang/String" IsL.yN IsL.yN ++ staticW "java/lang/String" 495 LChA.yN
def tab : Cond := tabOf yN yB 2 (some .char) site
def P (x t : Addr) (V : Cell) (n : Nat) (f : Nat → Int32) (z : Int32) (fm : Value) (i : Nat) (args : Array Value) (s : State) : Prop := args = #[.ref x, .int (Int32.ofNat i)] ∧ Txt x t V 0 n f s ∧ i < n ∧ StaticIs s "java/lang/String" "COMPACT_STRINGS" "Z" (.int z) ∧ ¬ z = 0 ∧ StaticIs s "jdk/internal/util/Preconditions" "SIOOBE_FORMATTER" "Ljava/util/function/BiFunction;" fm ∧ fm.isRef = true
def E (f : Nat → Int32) (i : Nat) (r : Option Value) (s u : State) : Prop := XT.PureE (some (.int (f i))) r s u
/-- charAt(i) of a Latin-1 String of n chars, i < n: f i -/
theorem law (l : Launch) (x t : Addr) (V : Cell) (n : Nat) (f : Nat → Int32) (z : Int32) (fm : Value) (i : Nat) : Law l yN 2 1 3 40 yB 2 (some .char) site (P x t V n f z fm i) (E f i) [] 0 0 := by
  refine Law.of_walk (plainFor_of_name (by decide +kernel)) (by decide +kernel) (by decide +kernel) (by decide) (fun _ _ h => by rw [h.1]; rfl) (fun _ U U' hal hh h => ⟨h.1, h.2.1.mv hal hh, h.2.2.1, h.2.2.2.1.there hal hh, h.2.2.2.2.1, h.2.2.2.2.2.1.there hal hh, h.2.2.2.2.2.2⟩) (fun r U U' V V' h1 hal h2 h => XT.PureE.mv r U U' V V' h1 hal h2 h) ?_
  intro p e s m args below meth c s₁ X0 hexec hbytes hml hret hlk hnm hown hh0 W hP
  obtain ⟨rfl, hx, hi, s1, hz, s3, rf⟩ := hP
  have v31 := hx.2.2.2.1.2.2.2
  have hr := hx.2.2.2.2.2 i hi
  have hx0 := hx.mv X0.warmed.alike hh0
  have c1 : Steps p.tables e below (s₁.setTop (entryFrame m #[.ref x, .int (Int32.ofNat i)] 2)) (s₁.setTop (mkF m 1 #[.val (.ref x), .val (.int (Int32.ofNat i))] [.ref x])) := Steps.trans (entry rfl) (by
    show Steps p.tables e below (s₁.setTop (mkF m 0 #[.val (.ref x), .val (.int (Int32.ofNat i))] [])) _
    refine XS.aloadN X0.here hexec rfl (hb hbytes d0) rfl rfl ?_
    exact Steps.refl _)
  obtain ⟨v2, T2, X2, E2, g2⟩ := X0.callV hexec (IsL.law l x 0 z) hown (wks W (virtW "java/lang/String" 492 "java/lang/String" IsL.yN IsL.yN)) rfl (by decide) (wk W IsL.tab) (W := 0) (Nat.le_of_ble_eq_true rfl) (Nat.le_of_ble_eq_true rfl) (Nat.le_refl _) (Nat.le_refl _) (hx0.1.fc X0.warmed.alike) hx0.1.is (g := (mkF m 1 #[.val (.ref x), .val (.int (Int32.ofNat i))] [.ref x])) rfl (by rw [hml]; rfl) c1 (argsL := []) (rest := []) rfl rfl (by show 2 * 0 + 0 ≤ _; decide) (hb hbytes d1) (⟨rfl, hx0.2.2.1, hx.2.2.2.2.1.cd, s1.there X0.warmed.alike hh0, hz⟩)
  obtain ⟨rfl, q2⟩ := E2
  have hh2 := q2.trans hh0
  have hx2 := hx.mv X2.warmed.alike hh2
  obtain ⟨-, k1, k2⟩ | ⟨k0, -⟩ := hx.2.2.2.2.1
  · have c3 : Steps p.tables e below (s₁.setTop (entryFrame m #[.ref x, .int (Int32.ofNat i)] 2)) (T2.setTop (mkF m 8 #[.val (.ref x), .val (.int (Int32.ofNat i))] [.ref x])) := Steps.trans g2 (by
      refine XS.ifNo X2.here hexec rfl (hb hbytes d4) rfl (i0_eq_f (by decide)) ?_
      refine XS.aloadN X2.here hexec rfl (hb hbytes d7) rfl rfl ?_
      exact Steps.refl _)
    obtain ⟨T4, X4, q4, st4⟩ := X2.hget hexec hown (wk W (.fieldLink "java/lang/String" 9 "java/lang/String" "value" "[B")) hx2.2.1 (g := (mkF m 8 #[.val (.ref x), .val (.int (Int32.ofNat i))] [.ref x])) rfl (rest := []) rfl (hb hbytes d8)
    have hh4 := q4.trans hh2
    have c5 : Steps p.tables e below (s₁.setTop (entryFrame m #[.ref x, .int (Int32.ofNat i)] 2)) (T4.setTop (mkF m 12 #[.val (.ref x), .val (.int (Int32.ofNat i))] [.int (Int32.ofNat i), .ref t])) := (c3.trans (st4 _ (Steps.refl _))).trans (by
      refine XS.iloadN X4.here hexec rfl (hb hbytes d11) rfl ?_
      exact Steps.refl _)
    obtain ⟨v6, T6, X6, E6, g6⟩ := X4.callS hexec (LChA.law l t V i (lo8 (f i)) fm) hown (wks W (staticW "java/lang/String" 495 LChA.yN)) (wk W LChA.tab) (W := 0) (Nat.le_of_ble_eq_true rfl) (Nat.le_of_ble_eq_true rfl) (Nat.le_refl _) (Nat.le_refl _) (g := (mkF m 12 #[.val (.ref x), .val (.int (Int32.ofNat i))] [.int (Int32.ofNat i), .ref t])) rfl (by rw [hml]; rfl) c5 (argsL := [.ref t, .int (Int32.ofNat i)]) (rest := []) rfl rfl (by show 2 * 0 + 0 ≤ _; decide) (hb hbytes d12) (⟨rfl, hx.2.2.2.1.mv X4.warmed.alike hh4, (k2 i hi).1, s3.there X4.warmed.alike hh4, rf⟩)
    obtain ⟨rfl, q6⟩ := E6
    rw [chr8_lo8 hr.1 (k2 i hi).2] at g6
    exact ⟨T6, some (.int (f i)), _, _, _, X6, rfl, rfl, rfl, (fun h => by cases h), ⟨rfl, q6.trans hh4⟩, fun fs hl => Steps.trans g6 (X6.ireturnOut hexec hret (narrow_ch hr.1 hr.2) (Or.inr (Or.inr (Or.inr (Or.inl rfl)))) (hb hbytes d15) hl)⟩
  · exact absurd k0 (by decide)
theorem pays {l : Launch} {R : Room} {p : Program} {e : Env} {below : List Frame} {s : State} {sargs : Array Value} {len W : Nat} (x t : Addr) (V : Cell) (n : Nat) (f : Nat → Int32) (z : Int32) (fm : Value) (i : Nat) (htab : tab.before sargs s = true) (hfr : 4 ≤ R.frames) (hlo : W + 53 ≤ R.locals) :
    Back l R p e below s sargs yN len W (fun A₁ a₁ => A₁.cells + 0 ≤ R.cells ∧ A₁.slots + 0 ≤ R.slots ∧ P x t V n f z fm i a₁ A₁.U) (fun A₁ _ v₁ B₁ => E f i v₁ A₁.U B₁.U ∧ B₁.locs = A₁.locs ++ [] ∧ B₁.cells = A₁.cells + 0 ∧ B₁.slots = A₁.slots + 0) :=
  (law l x t V n f z fm i).pays htab hfr (by omega)
end ChN
end StrChars
namespace StrChars.Road
open Jvm Sem ClassFile Op Lib Jvm.Stand Jvm.Free Jvm.Free.XT
open Jvm.Lib.Cold (StaticIs)
/-- the words of String.charAt(int), the Latin-1 road alone -/
abbrev wordsChN : List Jvm.Cond := [.code ChN.yN ChN.yB 2 (some .char), .initialized ST, .fieldLink ST 9 ST "value" "[B", .fieldLink ST 38 ST "COMPACT_STRINGS" "Z", .fieldLink ST 15 ST "coder" "B", .code IsL.yN IsL.yB 1 (some .boolean), .methodLink ST 492 IsL.yN, .declares IsL.yN, .selects ST IsL.yN IsL.yN, .instanceMethod IsL.yN,
  .methodLink ST 495 LChA.yN, .static LChA.yN, .code LChA.yN LChA.yB 2 (some .char), .initialized "java/lang/StringLatin1", .methodLink "java/lang/StringLatin1" 9 JO.Str_checkIndex.yN, .static JO.Str_checkIndex.yN, .code JO.Str_checkIndex.yN JO.Str_checkIndex.yB 2 none,
  .fieldLink ST 1053 "jdk/internal/util/Preconditions" "SIOOBE_FORMATTER" "Ljava/util/function/BiFunction;", .methodLink ST 1059 JC.PreCheck.yN, .static JC.PreCheck.yN, .code JC.PreCheck.yN JC.PreCheck.yB 3 (some .int), .initialized "jdk/internal/util/Preconditions"]
theorem tabChN_of {a : Array Value} {s : State} (h : ∀ w ∈ wordsChN, w.before a s = true) : ChN.tab.before a s = true := by
  have hp : JC.PreCheck.tab.before a s = true := unparts (wk h (.code JC.PreCheck.yN JC.PreCheck.yB 3 (some .int))) (wks h (.initialized JC.PreCheck.yN.cls :: JC.PreCheck.site))
  have qk := consq hp h
  have hk : JO.Str_checkIndex.tab.before a s = true := unparts (wk qk (.code JO.Str_checkIndex.yN JO.Str_checkIndex.yB 2 none)) (wks qk (.initialized JO.Str_checkIndex.yN.cls :: JO.Str_checkIndex.site))
  have ql := consq hk h
  have hl : LChA.tab.before a s = true := unparts (wk ql (.code LChA.yN LChA.yB 2 (some .char))) (wks ql (.initialized LChA.yN.cls :: LChA.site))
  have hi : IsL.tab.before a s = true := unparts (wk h (.code IsL.yN IsL.yB 1 (some .boolean))) (wks h (.initialized IsL.yN.cls :: IsL.site))
  have q := consq hi (consq hl h)
  exact unparts (wk q (.code ChN.yN ChN.yB 2 (some .char))) (wks q (.initialized ChN.yN.cls :: ChN.site))
theorem movedChN {Z s : State} {a0 args : Array Value} (hZ : Z.Warmed39 s.vm) (hw : ∀ d ∈ wordsChN, d.before a0 Z = true) : ∀ d ∈ wordsChN, d.before args s = true := fun d hd => by
  have t : ∀ d ∈ wordsChN, (d.onTables && d.keepsFace) = true := by decide +kernel
  exact RoadKit.mv hZ (hw d hd) (t d hd)
/-- **charAt(i) OF A LATIN-1 STRING**, i < n: the char -/
theorem chN {p : Program} {l : Launch} {e : Env} {R : Room} {s : State} {args : Array Value} {below : List Frame} {len W : Nat} {Z : State} {a0 : Array Value} {h : Heap} (hZ : Z.Warmed39 s.vm) (hw : ∀ d ∈ wordsChN, d.before a0 Z = true) {kI : Nat} (wi : (Jvm.Cond.instantiable ST kI).before a0 Z = true)
    {x t : Addr} {kb : ClassId} {cs : List Int32} {N2 z : Int32} {vs : List Value} {fm : Value} {i : Nat} {j : Int32} (E : RoadKit.Exa Z h x ST) (V : RoadKit.Fld Z h x ST "value" "[B" (.ref t)) (C : RoadKit.Fld Z h x ST "coder" "B" (.int 0)) (K : RoadKit.Arv Z h t kb .byte N2 vs (.int 0)) (hc : CodA cs 0 N2 vs) (hb : ∀ c ∈ cs, ¬ c < 0 ∧ ¬ (65535 : Int32) < c)
    (S : RoadKit.Sta Z h ST "COMPACT_STRINGS" "Z" (.int z)) (hz : ¬ z = 0) (F : RoadKit.Sta Z h "jdk/internal/util/Preconditions" "SIOOBE_FORMATTER" "Ljava/util/function/BiFunction;" fm) (rf : fm.isRef = true) (l2 : cs.length ≤ 4000) (hi : i < cs.length) (hj : j = Int32.ofNat i) (hfr : 4 ≤ R.frames) (hlo : W + 53 ≤ R.locals) :
    Back l R p e below s args (⟨"java/lang/String", "charAt", "(I)C"⟩ : MethodName) len W (fun P a => a = #[.ref x, .int j] ∧ P.U.heap = h ∧ P.cells + 0 ≤ R.cells ∧ P.slots + 0 ≤ R.slots)
      (fun P _ v B => ∃ L, (v = some (.int (cs.getD i 0)) ∧ L = [] ∧ B.U.heap = h) ∧ B.locs = P.locs ++ L ∧ B.cells = P.cells + 0 ∧ B.slots = P.slots + 0) := by
  subst hj
  intro m meth c P g ig mk a X hg hsize hdg hW hn hp'
  obtain ⟨rfl, rfl, r1, r2⟩ := hp'
  have al : Z.vm.Alike P.U.vm := hZ.alike.trans X.warmed.alike
  obtain ⟨A, hx⟩ := txt_of wi al E V C K hc hb l2
  obtain ⟨v, B, X', ⟨⟨hv, hh⟩, hl, hk, hs⟩, st⟩ := ChN.pays x t A cs.length (fun j => cs.getD j 0) z fm i (tabChN_of (movedChN hZ hw)) hfr hlo m meth c P g ig mk _ X hg hsize hdg hW hn ⟨r1, r2, rfl, hx, hi, sta_is al S, hz, sta_is al F, rf⟩
  exact ⟨v, B, X', ⟨[], ⟨hv, rfl, hh⟩, hl, hk, hs⟩, st⟩
/-- what backV says of its String, as the contracts of this text ask it: cs's low bytes, coder 0 -/
theorem codOf {cs : List Int32} {n : Nat} (hn : cs.length = n) (hb : ∀ c ∈ cs, ¬ 255 < c) : CodA cs 0 (Int32.ofNat n) ((cs.map lo8).map Value.int) := Or.inl ⟨rfl, by rw [hn], by simp [List.map_map, Function.comp_def], hb⟩
end StrChars.Road
end Jvm.Pilot.@@N@@
-- part pre
namespace Jvm.Pilot.@@N@@
open Jvm Jvm.ClassFile Sem Op Lib Jvm.Free Jvm.Stand Jvm.LawKit Jvm.RoadKit Bundle Jvm.Pilot.@@N@@.Jvm.D
/-- the constant that is remembered -/
def KO : String := "com/example/veneer/veneer/ServiceIriIsServiceIriPinLaw"
def KI : Nat := 7
def KT : List Int32 := [120, 45, 115, 112, 97, 114, 113, 108, 45, 97, 110, 121, 116, 104, 105, 110, 103, 58]
end Jvm.Pilot.@@N@@
namespace Jvm.Pilot.@@N@@
open Jvm Jvm.ClassFile Sem Op Lib Jvm.Free Jvm.Stand Jvm.LawKit Jvm.RoadKit Bundle Jvm.Pilot.@@N@@.Jvm.D
section Pre
variable {Z : State} {a0 : Array Value} {EL : List (String × Nat)} {sv ko : Bool} {kb : Option Addr} {p : Program} {l : Launch} {e : Env} {R : Room} {s : State} {m : MethodId} {args : Array Value} {below : List Frame} {meth : Method} {c : Code} {own : String} {bytes : ByteArray} {maxL : Nat} {rt : Option FieldType} {nm : String} {h0 : Heap} {ws sf : List Addr} {T : State} {h : Heap} {locs : List Loc} {cells slots : Nat} {Q : Option Value → Heap → Prop} {kc ks : Nat}
/-- the String a spells cs -/
def Str (Z : State) (h : Heap) (a : Addr) (cs : List Int32) : Prop :=
  Exa Z h a "java/lang/String" ∧ ∃ (t : Addr) (kb : ClassId) (cd N2 : Int32) (vs : List Value), Fld Z h a "java/lang/String" "value" "[B" (.ref t) ∧ Fld Z h a "java/lang/String" "coder" "B" (.int cd) ∧ Arv Z h t kb .byte N2 vs (.int 0) ∧ StrChars.Road.CodA cs cd N2 vs ∧ (∀ c ∈ cs, ¬ c < 0 ∧ ¬ (65535 : Int32) < c) ∧ cs.length ≤ 4000
/-- the constant's entry is resolved to o -/
def Kn (vm : Vm) (o : Option Addr) : Prop := ∀ a, o = some a → ∃ u : State, Lit (u.setVm vm) KO KI a
theorem Kn.stays {u : State} {vm0 vm1 : Vm} {o : Option Addr} (k : Kn vm0 o) (w : (u.setVm vm0).Warmed39 vm1) : Kn vm1 o := fun a ha => by
  obtain ⟨v, L⟩ := k a ha
  exact ⟨u, Lit.stays (s := u) (vm0 := vm0) L w⟩
theorem neA {x y : Addr} (h : @LT.lt Nat _ x y ∨ @LT.lt Nat _ y x) : x ≠ y := fun e => by subst e; rcases h with h | h <;> exact Nat.lt_irrefl _ h
/-- the i-th word of the tables -/
theorem wd (hw : ∀ d ∈ tables_1, d.before a0 Z = true) (i : Nat) {d : Jvm.Cond} (hd : tables_1[i]? = some d) : d.before a0 Z = true := hw d (List.mem_of_getElem? hd)
/-- the run from T with the frame g on top ends well: it returns, and Q says what -/
def Run (Z : State) (EL : List (String × Nat)) (sv ko : Bool) (p : Program) (e : Env) (below : List Frame) (s : State) (h0 : Heap) (ws : List Addr) (Q : Option Value → Heap → Prop) (kc ks : Nat) (T : State) (g : JFrame) : Prop :=
  ∃ s₂ o, Steps p.tables e below (T.setTop g) s₂ ∧ s₂.status = .running ∧ Ended s₂ below o ∧ ∃ v L, o = .returned v ∧ (Fr Z.heap.size L ∧ Keep h0 s₂.heap ws ∧ Q v s₂.heap) ∧ CHr Z EL s.vm h0 s₂.vm s₂.heap ∧ ReturnedEndW s o s₂ L kc ks ∧ ((NW = true → s.WarmedH s₂.vm) ∧ (ko = true → ∃ a, Kn s₂.vm (some a) ∧ Str Z s₂.heap a KT)) ∧ (sv = true → ∀ x, v = some (.ref x) → x < s₂.heap.size ∧ Safe Z EL s₂.vm s₂.heap x)
/-- what a walk bears at every place: besides the Stand (over the start with the tables at hand): what is plain; what is said of the tables -/
def Sit (Z : State) (a0 : Array Value) (EL : List (String × Nat)) (kb : Option Addr) (p : Program) (l : Launch) (e : Env) (R : Room) (s : State) (m : MethodId) (args : Array Value) (below : List Frame) (meth : Method) (c : Code) (own : String) (bytes : ByteArray) (maxL : Nat) (rt : Option FieldType) (nm : String) (h0 : Heap) (ws : List Addr) (sf : List Addr) (T : State) (h : Heap) (locs : List Loc) (cells slots : Nat) : Prop :=
  (T.heap = h ∧ p.tables.exec = Jvm.exec ∧ c.code = bytes ∧ c.maxLocals = maxL ∧ meth.sig.returnType = rt ∧ meth.locks = false ∧ meth.name = nm ∧ Fr Z.heap.size locs ∧ Keep h0 h ws ∧ Ext Z.heap h ∧ EW Z a0 EL) ∧
  ∃ vm0 k0, Stand p l e R (s.setVm vm0) m args below meth c T locs cells slots ∧ Z.Warmed39 vm0 ∧ vm0.findClass own = some m.cls ∧ s.Since vm0 k0 ∧ k0 ≤ h.size ∧ CHr Z EL s.vm h0 vm0 h ∧ (∀ x ∈ sf, x < h.size ∧ Safe Z EL vm0 h x) ∧ ((NW = true → s.WarmedH vm0) ∧ Kn vm0 kb)
theorem Sit.eh (X : Sit Z a0 EL kb p l e R s m args below meth c own bytes maxL rt nm h0 ws sf T h locs cells slots) : T.heap = h := X.1.1
theorem Sit.ex (X : Sit Z a0 EL kb p l e R s m args below meth c own bytes maxL rt nm h0 ws sf T h locs cells slots) : p.tables.exec = Jvm.exec := X.1.2.1
theorem Sit.byt (X : Sit Z a0 EL kb p l e R s m args below meth c own bytes maxL rt nm h0 ws sf T h locs cells slots) : c.code = bytes := X.1.2.2.1
theorem Sit.ml (X : Sit Z a0 EL kb p l e R s m args below meth c own bytes maxL rt nm h0 ws sf T h locs cells slots) : c.maxLocals = maxL := X.1.2.2.2.1
theorem Sit.rtt (X : Sit Z a0 EL kb p l e R s m args below meth c own bytes maxL rt nm h0 ws sf T h locs cells slots) : meth.sig.returnType = rt := X.1.2.2.2.2.1
theorem Sit.lk (X : Sit Z a0 EL kb p l e R s m args below meth c own bytes maxL rt nm h0 ws sf T h locs cells slots) : meth.locks = false := X.1.2.2.2.2.2.1
theorem Sit.nmm (X : Sit Z a0 EL kb p l e R s m args below meth c own bytes maxL rt nm h0 ws sf T h locs cells slots) : meth.name = nm := X.1.2.2.2.2.2.2.1
theorem Sit.fr (X : Sit Z a0 EL kb p l e R s m args below meth c own bytes maxL rt nm h0 ws sf T h locs cells slots) : Fr Z.heap.size locs := X.1.2.2.2.2.2.2.2.1
theorem Sit.kp (X : Sit Z a0 EL kb p l e R s m args below meth c own bytes maxL rt nm h0 ws sf T h locs cells slots) : Keep h0 h ws := X.1.2.2.2.2.2.2.2.2.1
theorem Sit.old (X : Sit Z a0 EL kb p l e R s m args below meth c own bytes maxL rt nm h0 ws sf T h locs cells slots) : Ext Z.heap h := X.1.2.2.2.2.2.2.2.2.2.1
theorem Sit.ew (X : Sit Z a0 EL kb p l e R s m args below meth c own bytes maxL rt nm h0 ws sf T h locs cells slots) : EW Z a0 EL := X.1.2.2.2.2.2.2.2.2.2.2
theorem Sit.at (X : Sit Z a0 EL kb p l e R s m args below meth c own bytes maxL rt nm h0 ws sf T h locs cells slots) : At T m c below := by obtain ⟨-, vm0, k0, X, -⟩ := X; exact X.here
theorem Sit.de (X : Sit Z a0 EL kb p l e R s m args below meth c own bytes maxL rt nm h0 ws sf T h locs cells slots) {pc : Nat} {r : Except ClassFile.DecodeError (ClassFile.Instr × Nat)} (h2 : ClassFile.decode bytes pc = r) : ClassFile.decode c.code pc = r := X.byt ▸ h2
theorem extKp {h' : Heap} {wz : List Addr} (O : Ext Z.heap h) (K : Keep h h' wz) (q : ∀ x ∈ wz, Z.heap.size ≤ x) : Ext Z.heap h' := ⟨Nat.le_trans O.1 K.1, fun a cl r => K.2.1 _ _ (O.2 _ _ r) fun z => absurd (Array.getElem?_eq_some_iff.mp r).1 (Nat.not_lt.mpr (q _ z))⟩
theorem extK {h h' : Heap} (E : Ext h h') : Keep h h' [] := (Keep.refl h []).ext E
theorem Sit.mono (X : Sit Z a0 EL kb p l e R s m args below meth c own bytes maxL rt nm h0 ws sf T h locs cells slots) {k n : Nat} (hk : cells ≤ k) (hn : slots ≤ n) : Sit Z a0 EL kb p l e R s m args below meth c own bytes maxL rt nm h0 ws sf T h locs k n := by
  obtain ⟨F, vm0, k0, Y, r⟩ := X; exact ⟨F, vm0, k0, Y.mono hk hn, r⟩
theorem Sit.less {sf' : List Addr} (X : Sit Z a0 EL kb p l e R s m args below meth c own bytes maxL rt nm h0 ws sf T h locs cells slots) (q : ∀ x ∈ sf', x ∈ sf) : Sit Z a0 EL kb p l e R s m args below meth c own bytes maxL rt nm h0 ws sf' T h locs cells slots := by
  obtain ⟨F, vm0, k0, Y, r1, r2, r3, r4, r5, r6, r7⟩ := X; exact ⟨F, vm0, k0, Y, r1, r2, r3, r4, r5, fun x hx => r6 x (q x hx), r7⟩
theorem Run.via {T' : State} {g g' : JFrame} (q : ∀ t, Steps p.tables e below (T'.setTop g') t → Steps p.tables e below (T.setTop g) t) (r : Run Z EL sv ko p e below s h0 ws Q kc ks T' g') : Run Z EL sv ko p e below s h0 ws Q kc ks T g := by
  obtain ⟨s₂, o, r1, r2⟩ := r
  exact ⟨s₂, o, q _ r1, r2⟩
theorem Run.on {T' : State} {g g' : JFrame} (q : Steps p.tables e below (T.setTop g) (T'.setTop g')) (r : Run Z EL sv ko p e below s h0 ws Q kc ks T' g') : Run Z EL sv ko p e below s h0 ws Q kc ks T g := Run.via (fun _ k => q.trans k) r
/-- the end -/
theorem Run.out (X : Sit Z a0 EL kb p l e R s m args below meth c own bytes maxL rt nm h0 ws sf T h locs cells slots) {v : Option Value} {g : JFrame} (hv : rt = none → v = none) (hc : cells ≤ kc) (hs : slots ≤ ks) (hq : Q v h) (hsv : sv = true → ∀ x, v = some (.ref x) → x ∈ sf) (hko : ko = true → ∃ a, kb = some a ∧ Str Z h a KT)
    (q : ∀ vm0 fs, Stand p l e R (s.setVm vm0) m args below meth c T locs cells slots → (∀ (f : JFrame) (acts : List Action), f.method = m → f.locked = none → f.entered = [] → (doReturn e (T.setTop f) acts v).1 = T.setFrames fs) → Steps p.tables e below (T.setTop g) (T.setFrames fs)) : Run Z EL sv ko p e below s h0 ws Q kc ks T g := by
  obtain ⟨F, vm0, k0, Y, r1, r2, r3, r4, r5, r6, r7⟩ := id X
  obtain ⟨fs, hr, hrun, hended, hW⟩ := Y.leaveW r3 (by rw [X.eh]; exact r4) (v := v) (fun z => hv (X.rtt.symm.trans z)) X.lk
  have eh : (T.setFrames fs).heap = h := X.eh
  have ev : (T.setFrames fs).vm = T.vm := rfl
  refine ⟨_, _, q vm0 fs Y hr, hrun, hended, v, locs, rfl, ⟨X.fr, by rw [eh]; exact X.kp, by rw [eh]; exact hq⟩, ?_, ⟨hW.1, hW.2.1, hW.2.2.1, hW.2.2.2.mono hc hs⟩, ⟨fun z => ?_, fun z => ?_⟩, fun z x hx => ?_⟩
  · rw [eh, ev]; exact r5.trans (CHv.at Y r1 X.ew r5.1)
  · rw [ev]; exact State.WarmedH.trans (t := s.setVm vm0) (r7.1 z) Y.warmed
  · obtain ⟨a, ha, SA⟩ := hko z
    rw [eh, ev]; exact ⟨a, ha ▸ r7.2.stays (u := s) Y.warmed.wide, SA⟩
  · rw [eh, ev]; exact ⟨(r6 x (hsv z x hx)).1, (CHv.at Y r1 X.ew r5.1).safe (r6 x (hsv z x hx)).1 (r6 x (hsv z x hx)).2⟩
theorem Run.retN (X : Sit Z a0 EL kb p l e R s m args below meth c own bytes maxL rt nm h0 ws sf T h locs cells slots) {pc : Nat} {Ls : Array Slot} {z : Int32} {rest : List Value} {t : FieldType} (hr : rt = some t) (ht : t = .boolean ∨ t = .byte ∨ t = .char ∨ t = .short) (hd : decode bytes pc = .ok (.ireturn, 1)) (hc : cells ≤ kc) (hs : slots ≤ ks) (hq : Q (some (.int (nar t z))) h) (hko : ko = true → ∃ a, kb = some a ∧ Str Z h a KT := by intro h; cases h) :
    Run Z EL sv ko p e below s h0 ws Q kc ks T (mkF m pc Ls (.int z :: rest)) :=
  Run.out X (fun z => by rw [hr] at z; cases z) hc hs hq (fun _ _ z => by cases z) hko fun vm0 fs Y q => Jvm.RoadKit.retN Y X.ex (X.rtt.trans hr) ht (X.de hd) q
theorem Run.retI (X : Sit Z a0 EL kb p l e R s m args below meth c own bytes maxL rt nm h0 ws sf T h locs cells slots) {pc : Nat} {Ls : Array Slot} {z : Int32} {rest : List Value} (hr : rt = some .int) (hd : decode bytes pc = .ok (.ireturn, 1)) (hc : cells ≤ kc) (hs : slots ≤ ks) (hq : Q (some (.int z)) h) (hko : ko = true → ∃ a, kb = some a ∧ Str Z h a KT := by intro h; cases h) :
    Run Z EL sv ko p e below s h0 ws Q kc ks T (mkF m pc Ls (.int z :: rest)) :=
  Run.out X (fun z => by rw [hr] at z; cases z) hc hs hq (fun _ _ z => by cases z) hko fun vm0 fs Y q => retOut Y X.ex (X.rtt.trans hr) rfl (Or.inl ⟨rfl, Or.inl rfl, z, rfl⟩) (X.de hd) q
theorem Run.retA (X : Sit Z a0 EL kb p l e R s m args below meth c own bytes maxL rt nm h0 ws sf T h locs cells slots) {pc : Nat} {Ls : Array Slot} {v : Value} {rest : List Value} {t : FieldType} (hr : rt = some t) (ht : t.isReference = true) (hv : v.isRef = true) (hd : decode bytes pc = .ok (.areturn, 1)) (hc : cells ≤ kc) (hs : slots ≤ ks) (hq : Q (some v) h) (hsv : sv = true → ∀ x, v = .ref x → x ∈ sf) (hko : ko = true → ∃ a, kb = some a ∧ Str Z h a KT := by intro h; cases h) :
    Run Z EL sv ko p e below s h0 ws Q kc ks T (mkF m pc Ls (v :: rest)) :=
  Run.out X (fun z => by rw [hr] at z; cases z) hc hs hq (fun z x hx => hsv z x (Option.some.inj hx)) hko fun vm0 fs Y q => retOut Y X.ex (X.rtt.trans hr) (by rcases ref_cases hv with rfl | ⟨_, rfl⟩ <;> cases t <;> rfl) (Or.inr (Or.inr (Or.inr (Or.inr ⟨rfl, ht, hv⟩)))) (X.de hd) q
theorem Run.retV (X : Sit Z a0 EL kb p l e R s m args below meth c own bytes maxL rt nm h0 ws sf T h locs cells slots) {pc : Nat} {Ls : Array Slot} (hr : rt = none) (hd : decode bytes pc = .ok (.return_, 1)) (hc : cells ≤ kc) (hs : slots ≤ ks) (hq : Q none h) (hko : ko = true → ∃ a, kb = some a ∧ Str Z h a KT := by intro h; cases h) :
    Run Z EL sv ko p e below s h0 ws Q kc ks T (mkF m pc Ls []) :=
  Run.out X (fun _ => rfl) hc hs hq (fun _ _ z => by cases z) hko fun vm0 fs Y q => Y.returnOut X.ex (X.rtt.trans hr) (X.de hd) q
/-- a body's contract; sf: objects handed in that are no booked literal's -/
def Con (l : Launch) (Z : State) (a0 : Array Value) (EL : List (String × Nat)) (sv : Bool) (ki : Option Addr) (ko : Bool) (y : MethodName) (bytes : ByteArray) (maxL : Nat) (rt : Option FieldType) (rm : Room) (ws sf : List Addr) (as' : Array Value) (h0 : Heap) (Q : Option Value → Heap → Prop) : Prop :=
  EW Z a0 EL → ∀ wds, MetFree l y (head1 (Jvm.Cond.code y bytes maxL rt :: wds) rm) (fun a U => a = as' ∧ Z.Warmed39 U.vm ∧ U.heap = h0 ∧ CHv Z EL U.vm h0 ∧ (∀ x ∈ sf, x < h0.size ∧ Safe Z EL U.vm h0 x) ∧ Kn U.vm ki) (fun _ _ _ _ _ => True) (fun _ U o U' => ∃ v L, o = .returned v ∧ (Fr Z.heap.size L ∧ Keep h0 U'.heap ws ∧ Q v U'.heap) ∧ CHr Z EL U.vm h0 U'.vm U'.heap ∧ ReturnedEndW U o U' L rm.cells rm.slots ∧ ((NW = true → U.WarmedH U'.vm) ∧ (ko = true → ∃ a, Kn U'.vm (some a) ∧ Str Z U'.heap a KT)) ∧ (sv = true → ∀ x, v = some (.ref x) → x < U'.heap.size ∧ Safe Z EL U'.vm U'.heap x))
theorem Con.enter {ki : Option Addr} {y : MethodName} {rm : Room} {as' : Array Value} (hn : plainFor y = true) (hE : Ext Z.heap h0)
    (body : ∀ p e s m below meth c T, Sit Z a0 EL ki p l e rm s m as' below meth c y.cls bytes maxL rt y.name h0 ws sf T h0 [] 0 0 → Run Z EL sv ko p e below s h0 ws Q rm.cells rm.slots T (entryFrame m as' maxL)) : Con l Z a0 EL sv ki ko y bytes maxL rt rm ws sf as' h0 Q := by
  intro hEW wds
  refine MetFree.of_bodySF hn hisR ?_
  intro p e s m args below meth c s₁ Bd hml0 hP hK
  obtain ⟨rfl, hZ, hh, hH, hsf, hki⟩ := hP
  have X0 : Stand p l e rm s m args below meth c s₁ [] 0 0 := Stand.of_body Bd
  have e0 : s₁.heap = h0 := by rw [← hh, Bd.state]; rfl
  exact body p e s m below meth c s₁ ⟨⟨e0, Bd.exec, Bd.bytes, hml0, Bd.returns, Bd.notSynchronized, (name_of_methodNamed Bd.named Bd.method).1, Fr.nil _, Keep.refl _ _, hE, hEW⟩, s.vm, h0.size, X0, hZ, findClass_of_methodNamed Bd.named, (State.WarmedH.refl s).since _, Nat.le_refl _, CHr.refl hH, hsf, ⟨fun _ => State.WarmedH.refl s, hki⟩⟩
/-! steps: the same base -/
/-- the walk goes on: other state, same heap -/
theorem Sit.same (X : Sit Z a0 EL kb p l e R s m args below meth c own bytes maxL rt nm h0 ws sf T h locs cells slots) {Q' : State → Prop} (q : ∀ vm0, Stand p l e R (s.setVm vm0) m args below meth c T locs cells slots → Z.Warmed39 (s.setVm vm0).vm → (s.setVm vm0).vm.findClass own = some m.cls → ∃ T', Stand p l e R (s.setVm vm0) m args below meth c T' locs cells slots ∧ T'.heap = h ∧ Q' T') : ∃ T', Sit Z a0 EL kb p l e R s m args below meth c own bytes maxL rt nm h0 ws sf T' h locs cells slots ∧ Q' T' := by
  obtain ⟨F, vm0, k0, Y, r1, r2, r⟩ := id X
  obtain ⟨T', Y', e', q'⟩ := q vm0 Y r1 r2
  exact ⟨T', ⟨⟨e', X.ex, X.byt, X.ml, X.rtt, X.lk, X.nmm, X.fr, X.kp, X.old, X.ew⟩, vm0, k0, Y', r1, r2, r⟩, q'⟩
/-- .. the heap has grown by an object x; it is nobody's literal -/
theorem Sit.grow (X : Sit Z a0 EL kb p l e R s m args below meth c own bytes maxL rt nm h0 ws sf T h locs cells slots) {k n : Nat} {Q' : State → Heap → Prop} (q : ∀ vm0, Stand p l e R (s.setVm vm0) m args below meth c T locs cells slots → Z.Warmed39 (s.setVm vm0).vm → (s.setVm vm0).vm.findClass own = some m.cls → ∃ T' h', Stand p l e R (s.setVm vm0) m args below meth c T' locs k n ∧ T'.heap = h' ∧ Ext h h' ∧ h.size < h'.size ∧ Q' T' h') : ∃ T' h', Sit Z a0 EL kb p l e R s m args below meth c own bytes maxL rt nm h0 ws (h.size :: sf) T' h' locs k n ∧ Ext h h' ∧ Q' T' h' := by
  obtain ⟨F, vm0, k0, Y, r1, r2, r3, r4, r5, r6, r7⟩ := id X
  obtain ⟨T', h', Y', e', E, lt, q'⟩ := q vm0 Y r1 r2
  refine ⟨T', h', ⟨⟨e', X.ex, X.byt, X.ml, X.rtt, X.lk, X.nmm, X.fr, X.kp.ext E, extKp X.old (extK E) (fun _ z => nomatch z), X.ew⟩, vm0, k0, Y', r1, r2, r3, Nat.le_trans r4 E.1, r5.trans (CHr.ext E r5.1), fun x hx => ?_, r7⟩, E, q'⟩
  rcases List.mem_cons.mp hx with rfl | hx
  · exact ⟨lt, (Safe.new (Nat.le_refl _)).ext E r5.1⟩
  · exact ⟨Nat.lt_of_lt_of_le (r6 x hx).1 E.1, (r6 x hx).2.ext E r5.1⟩
/-- .. only the places wz were written, none of a literal's -/
theorem Sit.go (X : Sit Z a0 EL kb p l e R s m args below meth c own bytes maxL rt nm h0 ws sf T h locs cells slots) {k n : Nat} {wz : List Addr} {Q' : State → Heap → List Loc → Prop} (r : ∀ x ∈ wz, (x ∈ ws ∨ h0.size ≤ x) ∧ Z.heap.size ≤ x) (sfe : ∀ vm0, Z.vm.Alike vm0 → (∀ x ∈ sf, Safe Z EL vm0 h x) → ∀ x ∈ wz, Safe Z EL vm0 h x)
    (q : ∀ vm0, Stand p l e R (s.setVm vm0) m args below meth c T locs cells slots → Z.Warmed39 (s.setVm vm0).vm → (s.setVm vm0).vm.findClass own = some m.cls → ∃ T' h' L, Stand p l e R (s.setVm vm0) m args below meth c T' (locs ++ L) k n ∧ T'.heap = h' ∧ Keep h h' wz ∧ Fr Z.heap.size L ∧ Q' T' h' L) : ∃ T' h' L, Sit Z a0 EL kb p l e R s m args below meth c own bytes maxL rt nm h0 ws sf T' h' (locs ++ L) k n ∧ Keep h h' wz ∧ Q' T' h' L := by
  obtain ⟨F, vm0, k0, Y, r1, r2, r3, r4, r5, r6, r7⟩ := id X
  obtain ⟨T', h', L, Y', e', K, N, q'⟩ := q vm0 Y r1 r2
  have sw := sfe vm0 r1.alike fun x hx => (r6 x hx).2
  exact ⟨T', h', L, ⟨⟨e', X.ex, X.byt, X.ml, X.rtt, X.lk, X.nmm, Fr.app X.fr N, X.kp.trans K fun x hx => (r x hx).1, extKp X.old K fun x hx => (r x hx).2, X.ew⟩, vm0, k0, Y', r1, r2, r3, Nat.le_trans r4 K.1, r5.trans (CHr.keep K sw r5.1), fun x hx => ⟨Nat.lt_of_lt_of_le (r6 x hx).1 K.1, (r6 x hx).2.keep K sw r5.1⟩, r7⟩, K, q'⟩
/-- .. as 'go', the places said anew -/
theorem Sit.goL (X : Sit Z a0 EL kb p l e R s m args below meth c own bytes maxL rt nm h0 ws sf T h locs cells slots) {k n : Nat} {wz : List Addr} {Q' : State → Heap → Prop} (r : ∀ x ∈ wz, (x ∈ ws ∨ h0.size ≤ x) ∧ Z.heap.size ≤ x) (sfe : ∀ vm0, Z.vm.Alike vm0 → (∀ x ∈ sf, Safe Z EL vm0 h x) → ∀ x ∈ wz, Safe Z EL vm0 h x)
    (q : ∀ vm0, Stand p l e R (s.setVm vm0) m args below meth c T locs cells slots → Z.Warmed39 (s.setVm vm0).vm → (s.setVm vm0).vm.findClass own = some m.cls → ∃ T' h' L, Stand p l e R (s.setVm vm0) m args below meth c T' L k n ∧ T'.heap = h' ∧ Keep h h' wz ∧ Fr Z.heap.size L ∧ Q' T' h') : ∃ T' h' L, Sit Z a0 EL kb p l e R s m args below meth c own bytes maxL rt nm h0 ws sf T' h' L k n ∧ Keep h h' wz ∧ Q' T' h' := by
  obtain ⟨F, vm0, k0, Y, r1, r2, r3, r4, r5, r6, r7⟩ := id X
  obtain ⟨T', h', L, Y', e', K, N, q'⟩ := q vm0 Y r1 r2
  have sw := sfe vm0 r1.alike fun x hx => (r6 x hx).2
  exact ⟨T', h', L, ⟨⟨e', X.ex, X.byt, X.ml, X.rtt, X.lk, X.nmm, N, X.kp.trans K fun x hx => (r x hx).1, extKp X.old K fun x hx => (r x hx).2, X.ew⟩, vm0, k0, Y', r1, r2, r3, Nat.le_trans r4 K.1, r5.trans (CHr.keep K sw r5.1), fun x hx => ⟨Nat.lt_of_lt_of_le (r6 x hx).1 K.1, (r6 x hx).2.keep K sw r5.1⟩, r7⟩, K, q'⟩
/-- the reference that comes back, where the contract says that it is nobody's literal -/
def rvs (su : Bool) (v : Option Value) : List Addr := match su, v with
  | true, some (.ref x) => [x]
  | _, _ => []
theorem rvs_safe {su : Bool} {v : Option Value} {P : Addr → Prop} (q : su = true → ∀ x, v = some (.ref x) → P x) : ∀ x ∈ rvs su v, P x := fun x hx => by
  unfold rvs at hx
  split at hx
  · cases List.mem_singleton.mp hx; exact q rfl x rfl
  · cases hx
/-- .. a step that may have interned: another base -/
theorem Sit.reb (X : Sit Z a0 EL kb p l e R s m args below meth c own bytes maxL rt nm h0 ws sf T h locs cells slots) {k n : Nat} {wz : List Addr} {Q' : State → Heap → List Loc → List Addr → Prop} (r : ∀ x ∈ wz, (x ∈ ws ∨ h0.size ≤ x) ∧ Z.heap.size ≤ x)
    (q : ∀ vm0 k0, Stand p l e R (s.setVm vm0) m args below meth c T locs cells slots → Z.Warmed39 (s.setVm vm0).vm → (s.setVm vm0).vm.findClass own = some m.cls → s.Since vm0 k0 → k0 ≤ h.size → CHv Z EL vm0 h → (∀ x ∈ sf, x < h.size ∧ Safe Z EL vm0 h x) → Kn vm0 kb → ∃ T' h' L vm1 k1 sx, Stand p l e R (s.setVm vm1) m args below meth c T' (locs ++ L) k n ∧ T'.heap = h' ∧ Keep h h' wz ∧ Fr Z.heap.size L ∧ Z.Warmed39 vm1 ∧ vm1.findClass own = some m.cls ∧ s.Since vm1 k1 ∧ k1 ≤ h'.size ∧ CHr Z EL vm0 h vm1 h' ∧ (NW = true → (s.setVm vm0).WarmedH vm1) ∧ vm1 = T'.vm ∧ (∀ x ∈ sx, x < h'.size ∧ Safe Z EL vm1 h' x) ∧ Q' T' h' L sx) : ∃ T' h' L sx, (∀ kb', Kn T'.vm kb' → Sit Z a0 EL kb' p l e R s m args below meth c own bytes maxL rt nm h0 ws (sx ++ sf) T' h' (locs ++ L) k n) ∧ Keep h h' wz ∧ Q' T' h' L sx := by
  obtain ⟨F, vm0, k0, Y, r1, r2, r3, r4, r5, r6, r7⟩ := id X
  obtain ⟨T', h', L, vm1, k1, sx, Y', e', K, N, W1, W2, S1, hk1, C1, n1, rfl, f1, q'⟩ := q vm0 k0 Y r1 r2 r3 r4 r5.1 r6 r7.2
  refine ⟨T', h', L, sx, fun kb' hk' => ⟨⟨e', X.ex, X.byt, X.ml, X.rtt, X.lk, X.nmm, Fr.app X.fr N, X.kp.trans K fun x hx => (r x hx).1, extKp X.old K fun x hx => (r x hx).2, X.ew⟩, _, k1, Y', W1, W2, S1, hk1, r5.trans C1, fun x hx => ?_, ⟨fun z => State.WarmedH.trans (t := s.setVm vm0) (r7.1 z) (n1 z), hk'⟩⟩, K, q'⟩
  rcases List.mem_append.mp hx with hx | hx
  · exact f1 x hx
  · exact ⟨Nat.lt_of_lt_of_le (r6 x hx).1 K.1, C1.safe (r6 x hx).1 (r6 x hx).2⟩
theorem Run.new (X : Sit Z a0 EL kb p l e R s m args below meth c own bytes maxL rt nm h0 ws sf T h locs cells slots) {C : String} {index n pc : Nat} {Ls : Array Slot} {st : List Value} (w : (Cond.classLink own index C).before a0 Z = true) (wi : (Cond.instantiable C n).before a0 Z = true) (wz : (Cond.initialized C).before a0 Z = true) (hd : decode bytes pc = .ok (.new index, 3)) (hc : cells + 1 ≤ R.cells) (hl : slots + n ≤ R.slots)
    (k : ∀ (T' : State) (h' : Heap) (x : Addr), @Eq Nat x h.size → Sit Z a0 EL kb p l e R s m args below meth c own bytes maxL rt nm h0 ws (x :: sf) T' h' locs (cells + 1) (slots + n) → Keep h h' [] → @LT.lt Nat _ x h'.size → Exa Z h' x C → (∀ {O f d : String} {ty : FieldType}, Laid Z a0 C O f d → parseFieldDescriptor d = some ty → Fld Z h' x O f d (defaultValue ty)) → Run Z EL sv ko p e below s h0 ws Q kc ks T' (mkF m (pc + 3) Ls (.ref x :: st))) :
    Run Z EL sv ko p e below s h0 ws Q kc ks T (mkF m pc Ls st) := by
  obtain ⟨T', h', X', E, A, D, q⟩ := X.grow (k := cells + 1) (n := slots + n) (Q' := fun T' h' => Exa Z h' h.size C ∧ (∀ {O f d : String} {ty : FieldType}, Laid Z a0 C O f d → parseFieldDescriptor d = some ty → Fld Z h' h.size O f d (defaultValue ty)) ∧ ∀ t, Steps p.tables e below (T'.setTop (mkF m (pc + 3) Ls (.ref h.size :: st))) t → Steps p.tables e below (T.setTop (mkF m pc Ls st)) t) fun vm0 Y hZ ho => by
    obtain ⟨T', h', Y', e', E, A, D, -, q⟩ := newO Y X.ex hZ ho w wi wz X.eh (g := mkF m pc Ls st) rfl (X.de hd) hc hl
    exact ⟨T', h', Y', e', E, A.lt, A, D, q⟩
  exact Run.via q (k T' h' _ rfl X' (extK E) A.lt A D)
theorem Run.getf (X : Sit Z a0 EL kb p l e R s m args below meth c own bytes maxL rt nm h0 ws sf T h locs cells slots) {R0 O f d : String} {index pc : Nat} {Ls : Array Slot} {st : List Value} {a : Addr} {v : Value} (w : (Cond.fieldLink own index R0 f d).before a0 Z = true) (via : Via Z R0 O f d) (F : Fld Z h a O f d v) (hd : decode bytes pc = .ok (.getfield index, 3))
    (k : ∀ (T' : State), Sit Z a0 EL kb p l e R s m args below meth c own bytes maxL rt nm h0 ws sf T' h locs cells slots → Run Z EL sv ko p e below s h0 ws Q kc ks T' (mkF m (pc + 3) Ls (v :: st))) : Run Z EL sv ko p e below s h0 ws Q kc ks T (mkF m pc Ls (.ref a :: st)) := by
  obtain ⟨T', X', q⟩ := X.same fun vm0 Y hZ ho => getF Y X.ex hZ ho (host := "") (Or.inl w) via X.eh F (g := mkF m pc Ls (.ref a :: st)) rfl rfl (X.de hd)
  exact Run.via q (k T' X')
theorem Run.gets (X : Sit Z a0 EL kb p l e R s m args below meth c own bytes maxL rt nm h0 ws sf T h locs cells slots) {R0 O f d : String} {index pc : Nat} {Ls : Array Slot} {st : List Value} {v : Value} (w : (Cond.fieldLink own index R0 f d).before a0 Z = true) (via : Via Z R0 O f d) (F : Sta Z Z.heap O f d v) (hd : decode bytes pc = .ok (.getstatic index, 3))
    (k : ∀ (T' : State), Sit Z a0 EL kb p l e R s m args below meth c own bytes maxL rt nm h0 ws sf T' h locs cells slots → Run Z EL sv ko p e below s h0 ws Q kc ks T' (mkF m (pc + 3) Ls (v :: st))) : Run Z EL sv ko p e below s h0 ws Q kc ks T (mkF m pc Ls st) := by
  obtain ⟨T', X', q⟩ := X.same fun vm0 Y hZ ho => getS Y X.ex hZ (host := "") ho w via X.eh (F.ext X.old) (g := mkF m pc Ls st) rfl (X.de hd)
  exact Run.via q (k T' X')
theorem Run.putf (X : Sit Z a0 EL kb p l e R s m args below meth c own bytes maxL rt nm h0 ws sf T h locs cells slots) {R0 O f d C : String} {index pc kk : Nat} {Ls : Array Slot} {st : List Value} {a : Addr} {v v' old : Value} {ty : FieldType} (w : (Cond.fieldLink own index R0 f d).before a0 Z = true) (via : Via Z R0 O f d) (F : Fld Z h a O f d old) (E : Exa Z h a C) (L : (Cond.lays C O f d).before a0 Z = true ∨ ((Cond.laysFinal C O f d).before a0 Z = true ∧ own = O ∧ nm = "<init>")) (wi : (Cond.instantiable C kk).before a0 Z = true)
    (hty : parseFieldDescriptor d = some ty) (hn : narrow ty v = v') (hf : fits ty v' = true) (ha : a ∈ ws ∨ h0.size ≤ a) (hz : Z.heap.size ≤ a) (hsf : (C ≠ "java/lang/String" ∧ C ≠ "[B") ∨ a ∈ sf) (hd : decode bytes pc = .ok (.putfield index, 3))
    (k : ∀ (T' : State) (h' : Heap) (L : List Loc), Sit Z a0 EL kb p l e R s m args below meth c own bytes maxL rt nm h0 ws sf T' h' (locs ++ L) cells slots → Keep h h' [a] → Wr h h' a (RoadKit.slotOf Z O f d) v' → Fld Z h' a O f d v' → Exa Z h' a C → Run Z EL sv ko p e below s h0 ws Q kc ks T' (mkF m (pc + 3) Ls st)) : Run Z EL sv ko p e below s h0 ws Q kc ks T (mkF m pc Ls (v :: .ref a :: st)) := by
  obtain ⟨T', h', L', X', K, W, q⟩ := X.go (k := cells) (n := slots) (wz := [a]) (Q' := fun T' h' _ => Wr h h' a (RoadKit.slotOf Z O f d) v' ∧ ∀ t, Steps p.tables e below (T'.setTop (mkF m (pc + 3) Ls st)) t → Steps p.tables e below (T.setTop (mkF m pc Ls (v :: .ref a :: st))) t) (fun x hx => by cases List.mem_singleton.mp hx; exact ⟨ha, hz⟩) (fun vm0 al hs x hx => by cases List.mem_singleton.mp hx; exact hsf.elim (fun z => Safe.exa al E z.1 z.2) (hs a)) fun vm0 Y hZ ho => by
    obtain ⟨T', h', Y', e', W, q⟩ := putFN Y X.ex hZ ho w via X.eh F E (L.imp id fun z => ⟨z.1, z.2.1, X.nmm.trans z.2.2⟩) wi hty hn hf (g := mkF m pc Ls (v :: .ref a :: st)) rfl rfl (X.de hd)
    exact ⟨T', h', _, Y', e', Keep.of_wr W, fun y hy => by cases List.mem_singleton.mp hy; exact hz, W, q⟩
  exact Run.via q (k T' h' L' X' K W (F.same W) (E.wr W))
theorem Run.initO (X : Sit Z a0 EL kb p l e R s m args below meth c own bytes maxL rt nm h0 ws sf T h locs cells slots) {idx pc : Nat} {Ls : Array Slot} {a : Addr} {st : List Value} (w1 : (Cond.methodLink own idx Lib.objectInit).before a0 Z = true) (w2 : (Cond.instanceMethod Lib.objectInit).before a0 Z = true) (w3 : (Cond.code Lib.objectInit ⟨#[0xb1]⟩ 1 none).before a0 Z = true)
    (hsz : Ls.size = maxL) (hd : decode bytes pc = .ok (.invokespecial idx, 3)) (hf : 1 ≤ R.frames) (hl : (st.map fun v => v.category).sum + 12 ≤ R.locals)
    (k : ∀ (T' : State), Sit Z a0 EL kb p l e R s m args below meth c own bytes maxL rt nm h0 ws sf T' h locs cells slots → Run Z EL sv ko p e below s h0 ws Q kc ks T' (mkF m (pc + 3) Ls st)) : Run Z EL sv ko p e below s h0 ws Q kc ks T (mkF m pc Ls (.ref a :: st)) := by
  obtain ⟨T', X', q⟩ := X.same fun vm0 Y hZ ho => Jvm.RoadKit.initO Y X.ex hZ ho w1 w2 w3 X.eh (g := mkF m pc Ls (.ref a :: st)) rfl (hsz.trans X.ml.symm) rfl (X.de hd) hf (W := (st.map fun v => v.category).sum) (by show 2 * 0 + _ ≤ _; omega) hl
  exact Run.via q (k T' X')
theorem Run.ldcI (X : Sit Z a0 EL kb p l e R s m args below meth c own bytes maxL rt nm h0 ws sf T h locs cells slots) {index pc : Nat} {v : Int32} {Ls : Array Slot} {st : List Value} (w : (Cond.constant own index v).before a0 Z = true) (hd : decode bytes pc = .ok (.ldc index, 2))
    (k : Run Z EL sv ko p e below s h0 ws Q kc ks T (mkF m (pc + 2) Ls (.int v :: st))) : Run Z EL sv ko p e below s h0 ws Q kc ks T (mkF m pc Ls st) := by
  obtain ⟨-, vm0, k0, Y, r1, r2, -⟩ := id X
  exact Run.via (Y.ldcInt X.ex r2 (mv (s := s.setVm vm0) r1 w) (g := mkF m pc Ls st) rfl (X.de hd)) k
theorem Run.ldcL (X : Sit Z a0 EL kb p l e R s m args below meth c own bytes maxL rt nm h0 ws sf T h locs cells slots) {index pc : Nat} {v : Int64} {Ls : Array Slot} {st : List Value} (w : (Cond.constantLong own index v).before a0 Z = true) (hd : decode bytes pc = .ok (.ldc2_w index, 3))
    (k : Run Z EL sv ko p e below s h0 ws Q kc ks T (mkF m (pc + 3) Ls (.long v :: st))) : Run Z EL sv ko p e below s h0 ws Q kc ks T (mkF m pc Ls st) := by
  obtain ⟨-, vm0, k0, Y, r1, r2, -⟩ := id X
  exact Run.via (Y.ldc2Long X.ex r2 (mv (s := s.setVm vm0) r1 w) (g := mkF m pc Ls st) rfl (X.de hd)) k
theorem Run.irem (X : Sit Z a0 EL kb p l e R s m args below meth c own bytes maxL rt nm h0 ws sf T h locs cells slots) {pc : Nat} {x y : Int32} {Ls : Array Slot} {st : List Value} (hd : decode bytes pc = .ok (.irem, 1)) (hy : y ≠ 0)
    (k : Run Z EL sv ko p e below s h0 ws Q kc ks T (mkF m (pc + 1) Ls (.int (x % y) :: st))) : Run Z EL sv ko p e below s h0 ws Q kc ks T (mkF m pc Ls (.int y :: .int x :: st)) := by
  obtain ⟨-, vm0, k0, Y, -⟩ := id X
  exact Run.via (fun t r => iremM Y X.ex (g := mkF m pc Ls (.int y :: .int x :: st)) rfl (X.de hd) rfl hy r) k
theorem Run.lswHit (X : Sit Z a0 EL kb p l e R s m args below meth c own bytes maxL rt nm h0 ws sf T h locs cells slots) {pc len : Nat} {k : Int32} {df : Int} {pairs : Array (Int × Int)} {Ls : Array Slot} {st : List Value} (hd : decode bytes pc = .ok (.lookupswitch df pairs, len)) (hso : (pairs.toList.zip (pairs.toList.drop 1)).all (fun (a, next) => a.1 < next.1) = true) {a off : Int} (hf : pairs.find? (·.1 == k.toInt) = some (a, off)) (ho : 0 ≤ (pc : Int) + off)
    (r : Run Z EL sv ko p e below s h0 ws Q kc ks T (mkF m ((pc : Int) + off).toNat Ls st)) : Run Z EL sv ko p e below s h0 ws Q kc ks T (mkF m pc Ls (.int k :: st)) := by
  obtain ⟨-, vm0, k0, Y, -⟩ := id X
  exact Run.via (fun t r => Y.lookupswitchHit X.ex (g := mkF m pc Ls (.int k :: st)) rfl rfl (X.de hd) hso hf ho t r) r
theorem Run.lswMiss (X : Sit Z a0 EL kb p l e R s m args below meth c own bytes maxL rt nm h0 ws sf T h locs cells slots) {pc len : Nat} {k : Int32} {df : Int} {pairs : Array (Int × Int)} {Ls : Array Slot} {st : List Value} (hd : decode bytes pc = .ok (.lookupswitch df pairs, len)) (hso : (pairs.toList.zip (pairs.toList.drop 1)).all (fun (a, next) => a.1 < next.1) = true) (hf : pairs.find? (·.1 == k.toInt) = none) (ho : 0 ≤ (pc : Int) + df)
    (r : Run Z EL sv ko p e below s h0 ws Q kc ks T (mkF m ((pc : Int) + df).toNat Ls st)) : Run Z EL sv ko p e below s h0 ws Q kc ks T (mkF m pc Ls (.int k :: st)) := by
  obtain ⟨-, vm0, k0, Y, -⟩ := id X
  exact Run.via (fun t r => Y.lookupswitchMiss X.ex (g := mkF m pc Ls (.int k :: st)) rfl rfl (X.de hd) hso hf ho t r) r
/-! arrays of chars or bytes -/
/-- the array b holds just these -/
def Arc (ty : FieldType) (Z : State) (h : Heap) (b : Addr) (cs : List Int32) : Prop := ∃ k, Arv Z h b k ty (Int32.ofNat cs.length) (cs.map Value.int) (.int 0) ∧ cs.length ≤ 4000
theorem n32' {n : Nat} (h : n ≤ 4000) : ¬ Int32.ofNat n < 0 ∧ (Int32.ofNat n).toNatClampNeg = n := by
  have e : (Int32.ofNat n).toInt = n := Int32.toInt_ofNat_small (by omega)
  refine ⟨fun q => ?_, ?_⟩
  · rw [Int32.lt_iff_toInt_lt, e] at q; have : (0 : Int32).toInt = 0 := rfl; omega
  · show (Int32.ofNat n).toInt.toNat = n
    rw [e]; simp
theorem Arc.keep {ty : FieldType} {h' : Heap} {wz : List Addr} {b : Addr} {cs : List Int32} (A : Arc ty Z h b cs) (K : Keep h h' wz) (q : b ∉ wz) : Arc ty Z h' b cs := by
  obtain ⟨k, A, r⟩ := A; exact ⟨k, A.keep K q, r⟩
theorem Arc.lt {ty : FieldType} {b : Addr} {cs : List Int32} (A : Arc ty Z h b cs) : @LT.lt Nat _ b h.size := by obtain ⟨k, A, r⟩ := A; exact A.lt
theorem getD_map (cs : List Int32) (i : Nat) : (cs.map Value.int).getD i (.int 0) = .int (cs.getD i 0) := by
  simp only [List.getD_eq_getElem?_getD, List.getElem?_map]; cases cs[i]? <;> rfl
theorem Run.newarr (X : Sit Z a0 EL kb p l e R s m args below meth c own bytes maxL rt nm h0 ws sf T h locs cells slots) {aty : ArrayType} {pc n cap : Nat} {j : Int32} {Ls : Array Slot} {st : List Value} (w : (Cond.arrayClass (newarray.typeOf aty)).before a0 Z = true) (hi : defaultValue (newarray.typeOf aty) = .int 0) (hd : decode bytes pc = .ok (.newarray aty, 2)) (hj : j = Int32.ofNat n) (hcap : n ≤ cap) (hn : cap ≤ 4000) (hc : cells + 1 ≤ R.cells) (hl : slots + cap ≤ R.slots)
    (k : ∀ (T' : State) (h' : Heap) (x : Addr), @Eq Nat x h.size → Sit Z a0 EL kb p l e R s m args below meth c own bytes maxL rt nm h0 ws (x :: sf) T' h' locs (cells + 1) (slots + cap) → Keep h h' [] → @LT.lt Nat _ x h'.size → Arc (newarray.typeOf aty) Z h' x (List.replicate n 0) → Run Z EL sv ko p e below s h0 ws Q kc ks T' (mkF m (pc + 2) Ls (.ref x :: st))) :
    Run Z EL sv ko p e below s h0 ws Q kc ks T (mkF m pc Ls (.int j :: st)) := by
  subst hj
  have hn' : n ≤ 4000 := Nat.le_trans hcap hn
  have q32 := n32' hn'
  obtain ⟨T', h', X', E, lt, A, q⟩ := X.grow (k := cells + 1) (n := slots + cap) (Q' := fun T' h' => h.size < h'.size ∧ Arc (newarray.typeOf aty) Z h' h.size (List.replicate n 0) ∧ ∀ t, Steps p.tables e below (T'.setTop (mkF m (pc + 2) Ls (.ref h.size :: st))) t → Steps p.tables e below (T.setTop (mkF m pc Ls (.int (Int32.ofNat n) :: st))) t) fun vm0 Y hZ ho => by
    obtain ⟨T', h', kA, Y', e', E, A, q⟩ := newP Y X.ex hZ w X.eh (g := mkF m pc Ls (.int (Int32.ofNat n) :: st)) rfl (X.de hd) rfl q32.1 (cap := cap) (by rw [q32.2]; exact hcap) (by omega) hc hl
    have V := Arv.new A q32.1
    rw [hi] at V
    refine ⟨T', h', Y', e', E, A.lt, A.lt, ⟨kA, ?_, by simpa using hn'⟩, q⟩
    have V2 := V.pad (vs' := (List.replicate n (0 : Int32)).map Value.int) fun i => by
      have := pad_rep [] (.int 0) n i
      simpa using this
    simpa using V2
  exact Run.via q (k T' h' _ rfl X' (extK E) lt A)
theorem idx_of {j : Int32} {i n : Nat} (hj : j = Int32.ofNat i) (hi : i < n) (hn : n ≤ 4000) : ¬ (j < 0 ∨ (Int32.ofNat n).toNatClampNeg ≤ j.toNatClampNeg) ∧ j.toNatClampNeg = i := by
  subst hj
  have a := n32' (n := i) (by omega)
  have b := n32' hn
  exact ⟨fun q => q.elim a.1 fun q => by rw [a.2, b.2] at q; omega, a.2⟩
theorem Arc.set {ty : FieldType} {h' : Heap} {b : Addr} {cs : List Int32} {j v' : Int32} {i : Nat} {kA : ClassId} {cl : Cell} (hlen : cs.length ≤ 4000) (A : Arr Z h b cl ty) (q1 : cl.cls = kA) (S : cl.slots.size = (Int32.ofNat cs.length).toNatClampNeg) (q3 : ¬ Int32.ofNat cs.length < 0) (H : RoadKit.Has cl (cs.map Value.int) (.int 0)) (G : ∀ i, i < cl.slots.size → fits ty ((cs.map Value.int).getD i (.int 0)) = true) (hv : fits ty (.int v') = true) (W : Wr h h' b j.toNatClampNeg (.int v')) (j2 : j.toNatClampNeg = i) (hi : i < cs.length) : Arc ty Z h' b (cs.set i v') := by
  have V' := Arv.set A q1 S q3 H G hv W i j2 (by simpa using hi)
  refine ⟨kA, ?_, by simpa using hlen⟩
  have e1 : (cs.map Value.int).set i (.int v') = (cs.set i v').map Value.int := by simp [List.map_set]
  rw [e1] at V'
  simpa using V'
theorem Run.castore (X : Sit Z a0 EL kb p l e R s m args below meth c own bytes maxL rt nm h0 ws sf T h locs cells slots) {pc i : Nat} {j v v' : Int32} {b : Addr} {cs : List Int32} {Ls : Array Slot} {st : List Value} (A : Arc .char Z h b cs) (hj : j = Int32.ofNat i) (hi : i < cs.length) (hv : nar .char v = v') (ha : b ∈ ws ∨ h0.size ≤ b) (hz : Z.heap.size ≤ b) (hd : decode bytes pc = .ok (.castore, 1))
    (k : ∀ (T' : State) (h' : Heap) (L : List Loc), Sit Z a0 EL kb p l e R s m args below meth c own bytes maxL rt nm h0 ws sf T' h' (locs ++ L) cells slots → Keep h h' [b] → h'.size = h.size → Arc .char Z h' b (cs.set i v') → Run Z EL sv ko p e below s h0 ws Q kc ks T' (mkF m (pc + 1) Ls st)) : Run Z EL sv ko p e below s h0 ws Q kc ks T (mkF m pc Ls (.int v :: .int j :: .ref b :: st)) := by
  obtain ⟨kA, V, hlen⟩ := A
  obtain ⟨cl, A, q1, S, q3, H, G⟩ := id V
  obtain ⟨j1, j2⟩ := idx_of hj hi hlen
  obtain ⟨T', h', L', X', K, W, q⟩ := X.go (k := cells) (n := slots) (wz := [b]) (Q' := fun T' h' _ => Wr h h' b j.toNatClampNeg (.int (nar .char v)) ∧ ∀ t, Steps p.tables e below (T'.setTop (mkF m (pc + 1) Ls st)) t → Steps p.tables e below (T.setTop (mkF m pc Ls (.int v :: .int j :: .ref b :: st))) t) (fun x hx => by cases List.mem_singleton.mp hx; exact ⟨ha, hz⟩) (fun vm0 al hs x hx => by cases List.mem_singleton.mp hx; exact Safe.arv al V (by decide)) fun vm0 Y hZ ho => by
    obtain ⟨T', h', Y', e', W, q⟩ := stC Y X.ex hZ X.eh A (j := j) (by rw [S]; exact j1) (g := mkF m pc Ls (.int v :: .int j :: .ref b :: st)) rfl rfl (X.de hd)
    exact ⟨T', h', _, Y', e', Keep.of_wr W, fun y hy => by cases List.mem_singleton.mp hy; exact hz, W, q⟩
  rw [hv] at W
  exact Run.via q (k T' h' L' X' K W.size (Arc.set hlen A q1 S q3 H G (by rw [← hv]; exact fits_nar_char _) W j2 hi))
theorem Run.bastore (X : Sit Z a0 EL kb p l e R s m args below meth c own bytes maxL rt nm h0 ws sf T h locs cells slots) {pc i : Nat} {j v v' : Int32} {b : Addr} {cs : List Int32} {Ls : Array Slot} {st : List Value} (A : Arc .byte Z h b cs) (hj : j = Int32.ofNat i) (hi : i < cs.length) (hv : nar .byte v = v') (ha : b ∈ ws ∨ h0.size ≤ b) (hz : Z.heap.size ≤ b) (hsf : b ∈ sf) (hd : decode bytes pc = .ok (.bastore, 1))
    (k : ∀ (T' : State) (h' : Heap) (L : List Loc), Sit Z a0 EL kb p l e R s m args below meth c own bytes maxL rt nm h0 ws sf T' h' (locs ++ L) cells slots → Keep h h' [b] → h'.size = h.size → Arc .byte Z h' b (cs.set i v') → Run Z EL sv ko p e below s h0 ws Q kc ks T' (mkF m (pc + 1) Ls st)) : Run Z EL sv ko p e below s h0 ws Q kc ks T (mkF m pc Ls (.int v :: .int j :: .ref b :: st)) := by
  obtain ⟨kA, V, hlen⟩ := A
  obtain ⟨cl, A, q1, S, q3, H, G⟩ := id V
  obtain ⟨j1, j2⟩ := idx_of hj hi hlen
  obtain ⟨T', h', L', X', K, W, q⟩ := X.go (k := cells) (n := slots) (wz := [b]) (Q' := fun T' h' _ => Wr h h' b j.toNatClampNeg (.int (nar .byte v)) ∧ ∀ t, Steps p.tables e below (T'.setTop (mkF m (pc + 1) Ls st)) t → Steps p.tables e below (T.setTop (mkF m pc Ls (.int v :: .int j :: .ref b :: st))) t) (fun x hx => by cases List.mem_singleton.mp hx; exact ⟨ha, hz⟩) (fun vm0 al hs x hx => by cases List.mem_singleton.mp hx; exact hs b hsf) fun vm0 Y hZ ho => by
    obtain ⟨T', h', Y', e', W, q⟩ := stB Y X.ex hZ X.eh A (j := j) (by rw [S]; exact j1) (g := mkF m pc Ls (.int v :: .int j :: .ref b :: st)) rfl rfl (X.de hd)
    exact ⟨T', h', _, Y', e', Keep.of_wr W, fun y hy => by cases List.mem_singleton.mp hy; exact hz, W, q⟩
  rw [hv] at W
  exact Run.via q (k T' h' L' X' K W.size (Arc.set hlen A q1 S q3 H G (by rw [← hv]; exact fits_nar_byte _) W j2 hi))
theorem Run.caload (X : Sit Z a0 EL kb p l e R s m args below meth c own bytes maxL rt nm h0 ws sf T h locs cells slots) {pc i : Nat} {j : Int32} {b : Addr} {cs : List Int32} {Ls : Array Slot} {st : List Value} (A : Arc .char Z h b cs) (hj : j = Int32.ofNat i) (hi : i < cs.length) (hd : decode bytes pc = .ok (.caload, 1))
    (k : Run Z EL sv ko p e below s h0 ws Q kc ks T (mkF m (pc + 1) Ls (.int (cs.getD i 0) :: st))) : Run Z EL sv ko p e below s h0 ws Q kc ks T (mkF m pc Ls (.int j :: .ref b :: st)) := by
  obtain ⟨kA, V, hlen⟩ := A
  obtain ⟨cl, A, q1, S, q3, H, G⟩ := V
  obtain ⟨j1, j2⟩ := idx_of hj hi hlen
  obtain ⟨-, vm0, k0, Y, r1, r2, -⟩ := id X
  exact Run.via (fun t r => Y.caload X.ex (j := j) (v := .int (cs.getD i 0)) (by rw [X.eh]; exact A.1) (State.isArrayOf_alike r1.alike A.2.1) A.2.2 (by rw [S]; exact j1) (by rw [j2, H i (by rw [S, (n32' hlen).2]; exact hi), getD_map]) (g := mkF m pc Ls (.int j :: .ref b :: st)) rfl rfl (X.de hd) t r) k
theorem Run.baload (X : Sit Z a0 EL kb p l e R s m args below meth c own bytes maxL rt nm h0 ws sf T h locs cells slots) {pc i : Nat} {j : Int32} {b : Addr} {cs : List Int32} {Ls : Array Slot} {st : List Value} (A : Arc .byte Z h b cs) (hj : j = Int32.ofNat i) (hi : i < cs.length) (hd : decode bytes pc = .ok (.baload, 1))
    (k : Run Z EL sv ko p e below s h0 ws Q kc ks T (mkF m (pc + 1) Ls (.int (cs.getD i 0) :: st))) : Run Z EL sv ko p e below s h0 ws Q kc ks T (mkF m pc Ls (.int j :: .ref b :: st)) := by
  obtain ⟨kA, V, hlen⟩ := A
  obtain ⟨cl, A, q1, S, q3, H, G⟩ := V
  obtain ⟨j1, j2⟩ := idx_of hj hi hlen
  obtain ⟨-, vm0, k0, Y, r1, r2, -⟩ := id X
  exact Run.via (fun t r => Y.baloadBytes X.ex (j := j) (v := .int (cs.getD i 0)) (by rw [X.eh]; exact A.1) (State.isArrayOf_alike r1.alike A.2.1) A.2.2 (by rw [S]; exact j1) (by rw [j2, H i (by rw [S, (n32' hlen).2]; exact hi), getD_map]) (g := mkF m pc Ls (.int j :: .ref b :: st)) rfl rfl (X.de hd) t r) k
theorem Run.alen {ty : FieldType} (X : Sit Z a0 EL kb p l e R s m args below meth c own bytes maxL rt nm h0 ws sf T h locs cells slots) {pc : Nat} {b : Addr} {cs : List Int32} {Ls : Array Slot} {st : List Value} (A : Arc ty Z h b cs) (hd : decode bytes pc = .ok (.arraylength, 1))
    (k : Run Z EL sv ko p e below s h0 ws Q kc ks T (mkF m (pc + 1) Ls (.int (Int32.ofNat cs.length) :: st))) : Run Z EL sv ko p e below s h0 ws Q kc ks T (mkF m pc Ls (.ref b :: st)) := by
  obtain ⟨kA, V, hlen⟩ := A
  obtain ⟨cl, A, q1, S, q3, H, G⟩ := V
  obtain ⟨-, vm0, k0, Y, r1, r2, -⟩ := id X
  refine Run.via (fun t r => Y.arraylength X.ex (by rw [X.eh]; exact A.1) (State.isArrayOf_alike r1.alike A.2.1) (g := mkF m pc Ls (.ref b :: st)) rfl rfl (X.de hd) t ?_) k
  rw [len_of S q3]
  exact r
/-! calls -/
theorem Con.payS {y : MethodName} {rm : Room} {as' : Array Value} {wz sz : List Addr} {Q' : Option Value → Heap → Prop} {by' : ByteArray} {ml : Nat} {rt' : Option FieldType} {len W : Nat} {vm0 : Vm} {su ko' : Bool} {ki : Option Addr} (C : Con l Z a0 EL su ki ko' y by' ml rt' rm wz sz as' h Q') (hEL : EW Z a0 EL) (hZ : Z.Warmed39 vm0) (H : CHv Z EL vm0 h) (hsz : ∀ x ∈ sz, x < h.size ∧ Safe Z EL vm0 h x) (hki : Kn vm0 ki) (wc : (Cond.code y by' ml rt').before a0 Z = true) (wz' : (Cond.initialized y.cls).before a0 Z = true) (hf : rm.frames + 1 ≤ R.frames) (hl : W + (ml + 11) + rm.locals ≤ R.locals) :
    BackS l R p e below (s.setVm vm0) args y len W (fun A a => a = as' ∧ A.U.heap = h ∧ A.cells + rm.cells ≤ R.cells ∧ A.slots + rm.slots ≤ R.slots)
      (fun A _ v B => ∃ L, (Fr Z.heap.size L ∧ Keep h B.U.heap wz ∧ Q' v B.U.heap) ∧ B.locs = A.locs ++ L ∧ B.cells = A.cells + rm.cells ∧ B.slots = A.slots + rm.slots ∧ CHr Z EL vm0 h B.U.vm B.U.heap ∧ ((NW = true → (s.setVm vm0).WarmedH B.U.vm) ∧ (ko' = true → ∃ a, Kn B.U.vm (some a) ∧ Str Z B.U.heap a KT)) ∧ (su = true → ∀ x, v = some (.ref x) → x < B.U.heap.size ∧ Safe Z EL B.U.vm B.U.heap x)) :=
  BackS.of_freeW (bytes := by') (maxL := ml) (ret := rt') (E := fun _ first o t L k n => k = rm.cells ∧ n = rm.slots ∧ (∃ v, o = .returned v ∧ (Fr Z.heap.size L ∧ Keep h t.heap wz ∧ Q' v t.heap) ∧ (su = true → ∀ x, v = some (.ref x) → x < t.heap.size ∧ Safe Z EL t.vm t.heap x)) ∧ CHr Z EL first.vm h t.vm t.heap ∧ ((NW = true → first.WarmedH t.vm) ∧ (ko' = true → ∃ a, Kn t.vm (some a) ∧ Str Z t.heap a KT))) (C hEL []) hf hl
    (fun m meth c A a Y hp => have hU : Z.Warmed39 A.U.vm := wtrans (s := s.setVm vm0) hZ Y.warmed
      ⟨by show (Cond.and _ .tt).before a A.U = true; rw [Cond.before_and, mv hU wc]; rfl, mv hU wc, mv hU wz', hp.2.2.1, hp.2.2.2⟩)
    (fun m meth c A a g mk Y hp => ⟨hp.1, wtrans (s := s.setVm vm0) hZ Y.warmed, hp.2.1, (CHv.at Y hZ hEL H).1, fun x hx => ⟨(hsz x hx).1, (CHv.at Y hZ hEL H).safe (hsz x hx).1 (hsz x hx).2⟩, hki.stays (u := s) Y.warmed.wide⟩) (fun _ _ _ _ _ _ _ _ _ => trivial)
    (fun _ _ _ _ ⟨v, L, g1, g2, g3, g4, g5, g6⟩ => ⟨L, _, _, g4, rfl, rfl, ⟨v, g1, g2, g6⟩, g3, g5⟩)
    (fun m meth c A a g mk v t L k n Y hp _ _ ⟨e1, e2, ⟨v', e3, e4, e7⟩, e5, e6⟩ => by
      cases e3; subst e1 e2
      exact ⟨L, e4, rfl, rfl, rfl, (CHv.at Y hZ hEL H).trans e5, ⟨fun z => State.WarmedH.trans (t := A.U) Y.warmed (e6.1 z), e6.2⟩, e7⟩)
/-- what a call by a contract leaves, whichever instruction made it -/
theorem Run.called (X : Sit Z a0 EL kb p l e R s m args below meth c own bytes maxL rt nm h0 ws sf T h locs cells slots) {y : MethodName} {by' : ByteArray} {ml : Nat} {rt' : Option FieldType} {rm : Room} {wz sz : List Addr} {Q' : Option Value → Heap → Prop} {len pc W : Nat} {Ls : Array Slot} {st rest : List Value} {as' : Array Value}
    {su ko' : Bool} {ki : Option Addr} (C : Con l Z a0 EL su ki ko' y by' ml rt' rm wz sz as' h Q') (hki : ki = none ∨ ki = kb) (w3 : (Cond.initialized y.cls).before a0 Z = true) (w4 : (Cond.code y by' ml rt').before a0 Z = true) (hf : rm.frames + 1 ≤ R.frames) (hl : W + (ml + 11) + rm.locals ≤ R.locals) (hwz : ∀ x ∈ wz, (x ∈ ws ∨ h0.size ≤ x) ∧ Z.heap.size ≤ x) (hsz : ∀ x ∈ sz, x ∈ sf)
    (q : ∀ vm0, Stand p l e R (s.setVm vm0) m args below meth c T locs cells slots → Z.Warmed39 (s.setVm vm0).vm → (s.setVm vm0).vm.findClass own = some m.cls →
      ∀ {Post : Pt → Array Value → Option Value → Pt → Prop}, BackS l R p e below (s.setVm vm0) args y len W (fun A a => a = as' ∧ A.U.heap = h ∧ A.cells + rm.cells ≤ R.cells ∧ A.slots + rm.slots ≤ R.slots) Post → ∃ (v : Option Value) (vm₁ : Vm) (B : Pt), (s.setVm vm0).WarmedH vm₁ ∧ Stand p l e R ((s.setVm vm0).setVm B.U.vm) m args below meth c B.U B.locs B.cells B.slots ∧ (s.setVm vm0).Since B.U.vm B.U.heap.size ∧ T.heap.size ≤ B.U.heap.size ∧ Post ⟨T.setVm vm₁, locs, cells, slots⟩ as' v B ∧ Steps p.tables e below (T.setTop (mkF m pc Ls st)) (B.U.setTop (mkF m (pc + len) Ls (v.toList ++ rest))))
    (k : ∀ (v : Option Value) (T' : State) (h' : Heap) (L : List Loc), Q' v h' → Sit Z a0 EL kb p l e R s m args below meth c own bytes maxL rt nm h0 ws sf T' h' (locs ++ L) (cells + rm.cells) (slots + rm.slots) → (su = true → ∀ x, v = some (.ref x) → Sit Z a0 EL kb p l e R s m args below meth c own bytes maxL rt nm h0 ws (x :: sf) T' h' (locs ++ L) (cells + rm.cells) (slots + rm.slots)) → (ko' = true → ∃ ka, Str Z h' ka KT ∧ Sit Z a0 EL (some ka) p l e R s m args below meth c own bytes maxL rt nm h0 ws sf T' h' (locs ++ L) (cells + rm.cells) (slots + rm.slots)) → Keep h h' wz → Run Z EL sv ko p e below s h0 ws Q kc ks T' (mkF m (pc + len) Ls (v.toList ++ rest))) : Run Z EL sv ko p e below s h0 ws Q kc ks T (mkF m pc Ls st) := by
  obtain ⟨T', h', L, sx, X', K, v, q3, hkb, hn, rfl, sp⟩ := X.reb (k := cells + rm.cells) (n := slots + rm.slots) (wz := wz) (Q' := fun T' h' L sx => ∃ v, Q' v h' ∧ Kn T'.vm kb ∧ (ko' = true → ∃ a, Kn T'.vm (some a) ∧ Str Z h' a KT) ∧ sx = rvs su v ∧ Steps p.tables e below (T.setTop (mkF m pc Ls st)) (T'.setTop (mkF m (pc + len) Ls (v.toList ++ rest)))) hwz fun vm0 k0 Y hZ ho hS hk H hs hkb => by
    obtain ⟨v, vm₁, ⟨T', L', k', n'⟩, -, Y', S', hT, ⟨Lc, ⟨q1, q2, q3⟩, l1, y1, z1, C1, n1, f1⟩, sp⟩ := q vm0 Y hZ ho (C.payS (W := W) X.ew hZ H (fun x hx => hs x (hsz x hx)) (hki.elim (fun e => e ▸ fun _ z => nomatch z) (fun e => e ▸ hkb)) w4 w3 hf hl)
    dsimp only [Pt.U, Pt.locs, Pt.cells, Pt.slots] at Y' S' hT l1 y1 z1 sp q1 q2 q3 C1 n1 f1
    subst l1 y1 z1
    exact ⟨T', T'.heap, Lc, T'.vm, T'.heap.size, rvs su v, Y', rfl, q2, q1, State.Warmed39.trans (t := s.setVm vm0) hZ S'.1, (S'.1.alike.findClass _ _).trans ho, hS.trans S' (Nat.le_trans hk (by rw [X.eh] at hT; exact hT)), Nat.le_refl _, C1, n1.1, rfl, rvs_safe f1, v, q3, hkb.stays (u := s) S'.1, n1.2, rfl, sp⟩
  refine Run.on sp (k v T' h' L q3 ((X' kb hkb).less fun x hx => List.mem_append_right _ hx) (fun z x hx => ?_) (fun z => ?_) K)
  · subst z hx
    exact X' kb hkb
  · obtain ⟨ka, hka, SA⟩ := hn z
    exact ⟨ka, SA, (X' (some ka) hka).less (fun x hx => List.mem_append_right _ hx)⟩
theorem Run.callS (X : Sit Z a0 EL kb p l e R s m args below meth c own bytes maxL rt nm h0 ws sf T h locs cells slots) {y : MethodName} {by' : ByteArray} {ml : Nat} {rt' : Option FieldType} {rm : Room} {wz sz : List Addr} {Q' : Option Value → Heap → Prop} {index pc W : Nat} {Ls : Array Slot} {st argsL rest : List Value} {ps : List FieldType} {rr : Option FieldType}
    {su ko' : Bool} {ki : Option Addr} (C : Con l Z a0 EL su ki ko' y by' ml rt' rm wz sz argsL.toArray h Q') (w1 : (Cond.methodLink own index y).before a0 Z = true) (w2 : (Cond.static y).before a0 Z = true) (w3 : (Cond.initialized y.cls).before a0 Z = true) (w4 : (Cond.code y by' ml rt').before a0 Z = true) (hy : y.cls ≠ "java/lang/invoke/MethodHandle" ∧ y.cls ≠ "java/lang/invoke/VarHandle")
    (hds : parseMethodDescriptor y.desc = some ⟨ps, rr⟩) (hln : argsL.length = ps.length) (hst : st = argsL.reverse ++ rest) (hW : (rest.map fun v => v.category).sum ≤ W) (hsz : Ls.size = maxL) (hd : decode bytes pc = .ok (.invokestatic index, 3)) (hf : rm.frames + 1 ≤ R.frames) (hl : W + (ml + 11) + rm.locals ≤ R.locals) (hc : cells + rm.cells ≤ R.cells) (hs : slots + rm.slots ≤ R.slots) (hwz : ∀ x ∈ wz, (x ∈ ws ∨ h0.size ≤ x) ∧ Z.heap.size ≤ x) (hsf : ∀ x ∈ sz, x ∈ sf)
    (k : ∀ (v : Option Value) (T' : State) (h' : Heap) (L : List Loc), Q' v h' → Sit Z a0 EL kb p l e R s m args below meth c own bytes maxL rt nm h0 ws sf T' h' (locs ++ L) (cells + rm.cells) (slots + rm.slots) → (su = true → ∀ x, v = some (.ref x) → Sit Z a0 EL kb p l e R s m args below meth c own bytes maxL rt nm h0 ws (x :: sf) T' h' (locs ++ L) (cells + rm.cells) (slots + rm.slots)) → (ko' = true → ∃ ka, Str Z h' ka KT ∧ Sit Z a0 EL (some ka) p l e R s m args below meth c own bytes maxL rt nm h0 ws sf T' h' (locs ++ L) (cells + rm.cells) (slots + rm.slots)) → Keep h h' wz → Run Z EL sv ko p e below s h0 ws Q kc ks T' (mkF m (pc + 3) Ls (v.toList ++ rest))) (hki : ki = none ∨ ki = kb := by first | exact Or.inl rfl | exact Or.inr rfl) : Run Z EL sv ko p e below s h0 ws Q kc ks T (mkF m pc Ls st) :=
  Run.called X (len := 3) (W := W) C hki w3 w4 hf hl hwz hsf (fun vm0 Y hZ ho _ bk => callSS Y X.ex (y := y) ho (mv hZ w1) (mv hZ w2) (mv hZ w3) (mv hZ w4) hy bk (g := mkF m pc Ls st) rfl (hsz.trans X.ml.symm) (argsL := argsL) (rest := rest) (lenOf hds hln) hst (by show 2 * 0 + _ ≤ _; omega) (X.de hd) (fun _ _ => ⟨rfl, X.eh, hc, hs⟩)) k
theorem Run.callN (X : Sit Z a0 EL kb p l e R s m args below meth c own bytes maxL rt nm h0 ws sf T h locs cells slots) {y : MethodName} {by' : ByteArray} {ml : Nat} {rm : Room} {wz sz : List Addr} {Q' : Option Value → Heap → Prop} {index pc W : Nat} {Ls : Array Slot} {a : Addr} {st argsL rest : List Value} {ps : List FieldType} {rr : Option FieldType}
    {su ko' : Bool} {ki : Option Addr} (C : Con l Z a0 EL su ki ko' y by' ml none rm wz sz (.ref a :: argsL).toArray h Q') (hi : y.name = "<init>") (w1 : (Cond.methodLink own index y).before a0 Z = true) (w2 : (Cond.instanceMethod y).before a0 Z = true) (w3 : (Cond.initialized y.cls).before a0 Z = true) (w4 : (Cond.code y by' ml none).before a0 Z = true) (hy : y.cls ≠ "java/lang/invoke/MethodHandle" ∧ y.cls ≠ "java/lang/invoke/VarHandle")
    (hds : parseMethodDescriptor y.desc = some ⟨ps, rr⟩) (hln : argsL.length = ps.length) (hst : st = argsL.reverse ++ .ref a :: rest) (hW : (rest.map fun v => v.category).sum ≤ W) (hsz : Ls.size = maxL) (hd : decode bytes pc = .ok (.invokespecial index, 3)) (hf : rm.frames + 1 ≤ R.frames) (hl : W + (ml + 11) + rm.locals ≤ R.locals) (hc : cells + rm.cells ≤ R.cells) (hs : slots + rm.slots ≤ R.slots) (hwz : ∀ x ∈ wz, (x ∈ ws ∨ h0.size ≤ x) ∧ Z.heap.size ≤ x) (hsf : ∀ x ∈ sz, x ∈ sf)
    (k : ∀ (v : Option Value) (T' : State) (h' : Heap) (L : List Loc), Q' v h' → Sit Z a0 EL kb p l e R s m args below meth c own bytes maxL rt nm h0 ws sf T' h' (locs ++ L) (cells + rm.cells) (slots + rm.slots) → (su = true → ∀ x, v = some (.ref x) → Sit Z a0 EL kb p l e R s m args below meth c own bytes maxL rt nm h0 ws (x :: sf) T' h' (locs ++ L) (cells + rm.cells) (slots + rm.slots)) → (ko' = true → ∃ ka, Str Z h' ka KT ∧ Sit Z a0 EL (some ka) p l e R s m args below meth c own bytes maxL rt nm h0 ws sf T' h' (locs ++ L) (cells + rm.cells) (slots + rm.slots)) → Keep h h' wz → Run Z EL sv ko p e below s h0 ws Q kc ks T' (mkF m (pc + 3) Ls (v.toList ++ rest))) (hki : ki = none ∨ ki = kb := by first | exact Or.inl rfl | exact Or.inr rfl) : Run Z EL sv ko p e below s h0 ws Q kc ks T (mkF m pc Ls st) :=
  Run.called X (len := 3) (W := W) C hki w3 w4 hf hl hwz hsf (fun vm0 Y hZ ho _ bk => Y.specialBackS X.ex (y := y) hi ho (mv hZ w1) (mv hZ w2) (mv hZ w4) hy bk (g := mkF m pc Ls st) rfl (hsz.trans X.ml.symm) (Steps.refl _) (a := a) (argsL := argsL) (rest := rest) (lenOf hds hln) hst (by show 2 * 0 + _ ≤ _; omega) (X.de hd) (fun _ _ => ⟨rfl, X.eh, hc, hs⟩)) k
theorem Run.callV (X : Sit Z a0 EL kb p l e R s m args below meth c own bytes maxL rt nm h0 ws sf T h locs cells slots) {y : MethodName} {by' : ByteArray} {ml : Nat} {rt' : Option FieldType} {rm : Room} {wz sz : List Addr} {Q' : Option Value → Heap → Prop} {index pc W : Nat} {Ls : Array Slot} {a : Addr} {cls : String} {st argsL rest : List Value} {ps : List FieldType} {rr : Option FieldType}
    {su ko' : Bool} {ki : Option Addr} (C : Con l Z a0 EL su ki ko' y by' ml rt' rm wz sz (.ref a :: argsL).toArray h Q') (E : Exa Z h a cls) (w1 : (Cond.methodLink own index y).before a0 Z = true) (wd : (Cond.declares y).before a0 Z = true) (w2 : (Cond.instanceMethod y).before a0 Z = true) (wl : (Cond.selects cls y y).before a0 Z = true) (w3 : (Cond.initialized y.cls).before a0 Z = true) (w4 : (Cond.code y by' ml rt').before a0 Z = true) (hy : y.cls ≠ "java/lang/invoke/MethodHandle" ∧ y.cls ≠ "java/lang/invoke/VarHandle")
    (hds : parseMethodDescriptor y.desc = some ⟨ps, rr⟩) (hln : argsL.length = ps.length) (hst : st = argsL.reverse ++ .ref a :: rest) (hW : (rest.map fun v => v.category).sum ≤ W) (hsz : Ls.size = maxL) (hd : decode bytes pc = .ok (.invokevirtual index, 3)) (hf : rm.frames + 1 ≤ R.frames) (hl : W + (ml + 11) + rm.locals ≤ R.locals) (hc : cells + rm.cells ≤ R.cells) (hs : slots + rm.slots ≤ R.slots) (hwz : ∀ x ∈ wz, (x ∈ ws ∨ h0.size ≤ x) ∧ Z.heap.size ≤ x) (hsf : ∀ x ∈ sz, x ∈ sf)
    (k : ∀ (v : Option Value) (T' : State) (h' : Heap) (L : List Loc), Q' v h' → Sit Z a0 EL kb p l e R s m args below meth c own bytes maxL rt nm h0 ws sf T' h' (locs ++ L) (cells + rm.cells) (slots + rm.slots) → (su = true → ∀ x, v = some (.ref x) → Sit Z a0 EL kb p l e R s m args below meth c own bytes maxL rt nm h0 ws (x :: sf) T' h' (locs ++ L) (cells + rm.cells) (slots + rm.slots)) → (ko' = true → ∃ ka, Str Z h' ka KT ∧ Sit Z a0 EL (some ka) p l e R s m args below meth c own bytes maxL rt nm h0 ws sf T' h' (locs ++ L) (cells + rm.cells) (slots + rm.slots)) → Keep h h' wz → Run Z EL sv ko p e below s h0 ws Q kc ks T' (mkF m (pc + 3) Ls (v.toList ++ rest))) (hki : ki = none ∨ ki = kb := by first | exact Or.inl rfl | exact Or.inr rfl) : Run Z EL sv ko p e below s h0 ws Q kc ks T (mkF m pc Ls st) :=
  Run.called X (len := 3) (W := W) C hki w3 w4 hf hl hwz hsf (fun vm0 Y hZ ho _ bk => by
    obtain ⟨cq, kq, qa, qb, qc⟩ := isOf (s := s.setVm vm0) hZ X.eh E
    exact Y.virtualBackS X.ex (y := y) (z := y) ho (mv hZ w1) (mv hZ wd) (notFace_of_selects (args := #[]) (mv hZ wl)) (mv hZ wl) (mv hZ w2) hy bk qa qc (g := mkF m pc Ls st) rfl (hsz.trans X.ml.symm) (Steps.refl _) (argsL := argsL) (rest := rest) (lenOf hds hln) hst (by show 2 * 0 + _ ≤ _; omega) (X.de hd) (fun _ _ => ⟨rfl, X.eh, hc, hs⟩)) k
theorem Run.callI (X : Sit Z a0 EL kb p l e R s m args below meth c own bytes maxL rt nm h0 ws sf T h locs cells slots) {xi y : MethodName} {by' : ByteArray} {ml : Nat} {rt' : Option FieldType} {rm : Room} {wz sz : List Addr} {Q' : Option Value → Heap → Prop} {index count pc W : Nat} {Ls : Array Slot} {a : Addr} {cls : String} {st argsL rest : List Value} {ps : List FieldType} {rr : Option FieldType}
    {su ko' : Bool} {ki : Option Addr} (C : Con l Z a0 EL su ki ko' y by' ml rt' rm wz sz (.ref a :: argsL).toArray h Q') (E : Exa Z h a cls) (w1 : (Cond.methodLink own index xi).before a0 Z = true) (wd : (Cond.declares xi).before a0 Z = true) (wf : (Cond.interfaceMethod xi.cls xi.cls xi.name xi.desc).before a0 Z = true) (hfa : ((Cond.interfaceMethod xi.cls xi.cls xi.name xi.desc).onTables && (Cond.interfaceMethod xi.cls xi.cls xi.name xi.desc).keepsFace) = true) (wl : (Cond.selects cls xi y).before a0 Z = true) (w2 : (Cond.instanceMethod y).before a0 Z = true) (wp : (Cond.publicMethod y).before a0 Z = true) (wu : (Cond.unhidden cls xi.name xi.desc).before a0 Z = true) (wc : (Cond.castable cls xi.cls).before a0 Z = true) (w3 : (Cond.initialized y.cls).before a0 Z = true) (w4 : (Cond.code y by' ml rt').before a0 Z = true) (hy : xi.cls ≠ "java/lang/invoke/MethodHandle" ∧ xi.cls ≠ "java/lang/invoke/VarHandle")
    (hds : parseMethodDescriptor xi.desc = some ⟨ps, rr⟩) (hln : argsL.length = ps.length) (hst : st = argsL.reverse ++ .ref a :: rest) (hW : (rest.map fun v => v.category).sum ≤ W) (hsz : Ls.size = maxL) (hd : decode bytes pc = .ok (.invokeinterface index count, 5)) (hf : rm.frames + 1 ≤ R.frames) (hl : W + (ml + 11) + rm.locals ≤ R.locals) (hc : cells + rm.cells ≤ R.cells) (hs : slots + rm.slots ≤ R.slots) (hwz : ∀ x ∈ wz, (x ∈ ws ∨ h0.size ≤ x) ∧ Z.heap.size ≤ x) (hsf : ∀ x ∈ sz, x ∈ sf)
    (k : ∀ (v : Option Value) (T' : State) (h' : Heap) (L : List Loc), Q' v h' → Sit Z a0 EL kb p l e R s m args below meth c own bytes maxL rt nm h0 ws sf T' h' (locs ++ L) (cells + rm.cells) (slots + rm.slots) → (su = true → ∀ x, v = some (.ref x) → Sit Z a0 EL kb p l e R s m args below meth c own bytes maxL rt nm h0 ws (x :: sf) T' h' (locs ++ L) (cells + rm.cells) (slots + rm.slots)) → (ko' = true → ∃ ka, Str Z h' ka KT ∧ Sit Z a0 EL (some ka) p l e R s m args below meth c own bytes maxL rt nm h0 ws sf T' h' (locs ++ L) (cells + rm.cells) (slots + rm.slots)) → Keep h h' wz → Run Z EL sv ko p e below s h0 ws Q kc ks T' (mkF m (pc + 5) Ls (v.toList ++ rest))) (hki : ki = none ∨ ki = kb := by first | exact Or.inl rfl | exact Or.inr rfl) : Run Z EL sv ko p e below s h0 ws Q kc ks T (mkF m pc Ls st) :=
  Run.called X (len := 5) (W := W) C hki w3 w4 hf hl hwz hsf (fun vm0 Y hZ ho _ bk => by
    obtain ⟨cq, kq, qa, qb, qc⟩ := isOf (s := s.setVm vm0) hZ X.eh E
    exact Y.interfaceBackS X.ex (xi := xi) (y := y) ho (mv hZ w1) (mv hZ wd) (mv hZ wf hfa) (mv hZ wl) (mv hZ w2) (mv hZ wp) (mv hZ wu) (mv hZ wc) hy bk qa qb qc (g := mkF m pc Ls st) rfl (hsz.trans X.ml.symm) (Steps.refl _) (argsL := argsL) (rest := rest) (lenOf hds hln) hst (by show 2 * 0 + _ ≤ _; omega) (X.de hd) (fun _ _ => ⟨rfl, X.eh, hc, hs⟩)) k
end Pre
end Jvm.Pilot.@@N@@
-- part str
namespace Jvm.Pilot.@@N@@
open Jvm Jvm.ClassFile Sem Op Lib Jvm.Free Jvm.Stand Jvm.LawKit Jvm.RoadKit Bundle Jvm.Pilot.@@N@@.Jvm.D
section Strs
variable {Z : State} {a0 : Array Value} {EL : List (String × Nat)} {sv ko : Bool} {kb : Option Addr} {p : Program} {l : Launch} {e : Env} {R : Room} {s : State} {m : MethodId} {args : Array Value} {below : List Frame} {meth : Method} {c : Code} {own : String} {bytes : ByteArray} {maxL : Nat} {rt : Option FieldType} {nm : String} {h0 : Heap} {ws sf : List Addr} {T : State} {h h' : Heap} {locs : List Loc} {cells slots : Nat} {Q : Option Value → Heap → Prop} {kc ks : Nat} {a : Addr} {cs : List Int32}
theorem Str.keep (S : Str Z h a cs) (K : Keep h h' []) : Str Z h' a cs := by
  obtain ⟨E, t, kb, cd, N2, vs, V, C, A, r⟩ := S
  exact ⟨E.keep K, t, kb, cd, N2, vs, V.keep K nin0, C.keep K nin0, A.keep K nin0, r⟩
theorem Str.lt (S : Str Z h a cs) : @LT.lt Nat _ a h.size := S.1.lt
/-- a String as 'new' leaves it -/
def Raw (Z : State) (h : Heap) (a : Addr) : Prop := Exa Z h a "java/lang/String" ∧ Fld Z h a "java/lang/String" "value" "[B" .null ∧ Fld Z h a "java/lang/String" "coder" "B" (.int 0)
theorem Raw.keep {wz : List Addr} (S : Raw Z h a) (K : Keep h h' wz) (q : a ∉ wz) : Raw Z h' a := ⟨S.1.keep K, S.2.1.keep K q, S.2.2.keep K q⟩
/-- the JDK's statics -/
def Sets (Z : State) : Prop := ∃ (z : Int32) (fm : Value), Sta Z Z.heap "java/lang/String" "COMPACT_STRINGS" "Z" (.int z) ∧ ¬ z = 0 ∧ Sta Z Z.heap "jdk/internal/util/Preconditions" "SIOOBE_FORMATTER" "Ljava/util/function/BiFunction;" fm ∧ fm.isRef = true
theorem up (cs : List Int32) (h : ∀ c ∈ cs, ¬ c < 0 ∧ ¬ (255 : Int32) < c) : ∀ c ∈ cs, ¬ c < 0 ∧ ¬ (65535 : Int32) < c := fun c hc => ⟨(h c hc).1, fun q => (h c hc).2 (by rw [Int32.lt_iff_toInt_lt] at q ⊢; have e1 : (65535 : Int32).toInt = 65535 := rfl; have e2 : (255 : Int32).toInt = 255 := rfl; omega)⟩
theorem hwsV (hw : ∀ d ∈ tables_1, d.before a0 Z = true) : ∀ d ∈ StrChars.Road.words, d.before a0 Z = true := fun d hd => hw d ((by decide +kernel : ∀ d ∈ StrChars.Road.words, d ∈ tables_1) d hd)
/-- new String(char[]): the constructor's call -/
theorem Run.initStr (hw : ∀ d ∈ tables_1, d.before a0 Z = true) (hS : Sets Z) (X : Sit Z a0 EL kb p l e R s m args below meth c own bytes maxL rt nm h0 ws sf T h locs cells slots) {x b : Addr} {index pc W : Nat} {Ls : Array Slot} {rest : List Value} (G : Raw Z h x) (A : Arc .char Z h b cs) (hcs : ∀ c ∈ cs, ¬ c < 0 ∧ ¬ (255 : Int32) < c) (h1 : 0 < cs.length)
    (w1 : (Cond.methodLink own index (⟨"java/lang/String", "<init>", "([C)V"⟩ : MethodName)).before a0 Z = true) (w2 : (Cond.instanceMethod (⟨"java/lang/String", "<init>", "([C)V"⟩ : MethodName)).before a0 Z = true) (wi : (Cond.instantiable "java/lang/String" 4).before a0 Z = true) (hd : decode bytes pc = .ok (.invokespecial index, 3)) (hsz : Ls.size = maxL) (hx : x ∈ ws ∨ h0.size ≤ x) (hz : Z.heap.size ≤ x) (hsf : x ∈ sf)
    (hW : (rest.map fun v => v.category).sum ≤ W) (hf : 4 ≤ R.frames) (hl : W + 65 ≤ R.locals) (hc : cells + 1 ≤ R.cells) (hs : slots + cs.length ≤ R.slots)
    (k : ∀ (T' : State) (h' : Heap) (L : List Loc), Sit Z a0 EL kb p l e R s m args below meth c own bytes maxL rt nm h0 ws sf T' h' (locs ++ L) (cells + 1) (slots + cs.length) → Keep h h' [x] → Str Z h' x cs → Run Z EL sv ko p e below s h0 ws Q kc ks T' (mkF m (pc + 3) Ls rest)) : Run Z EL sv ko p e below s h0 ws Q kc ks T (mkF m pc Ls (.ref b :: .ref x :: rest)) := by
  obtain ⟨zz, fm, S1, S2, S3, S4⟩ := hS
  obtain ⟨kA, V, hlen⟩ := A
  have wc := hwsV hw _ (List.mem_cons_self ..)
  obtain ⟨T', h', L', X', K, S, sp⟩ := X.go (k := cells + 1) (n := slots + cs.length) (wz := [x]) (Q' := fun T' h' _ => Str Z h' x cs ∧ Steps p.tables e below (T.setTop (mkF m pc Ls (.ref b :: .ref x :: rest))) (T'.setTop (mkF m (pc + 3) Ls rest))) (fun y hy => by cases List.mem_singleton.mp hy; exact ⟨hx, hz⟩) (fun vm0 al hs y hy => by cases List.mem_singleton.mp hy; exact hs x hsf) fun vm0 Y hZ ho => by
    obtain ⟨v, _, ⟨T', L', k', n'⟩, -, Y', ⟨Lc, ⟨q1, q2, q3, q4, q5, t, kb, q6, q7, q8, q9, q10⟩, l1, y1, z1⟩, sp⟩ := Y.specialBack X.ex (y := (⟨"java/lang/String", "<init>", "([C)V"⟩ : MethodName)) rfl ho (mv hZ w1) (mv hZ w2) (mv hZ wc) (by decide) (StrChars.Road.backV (W := W) hZ (hwsV hw) (kI := 4) wi (cs := cs) (bs := cs.map fun c => c.toInt8.toInt32) (n := cs.length) hz X.old.1 G.1 G.2.1 G.2.2 V (S1.ext X.old) S2 rfl rfl h1 hlen hcs rfl hf hl) (g := mkF m pc Ls (.ref b :: .ref x :: rest)) rfl (hsz.trans X.ml.symm) (Steps.refl _) (a := x) (argsL := [.ref b]) (rest := rest) (lenOf (ps := [.array .char]) (r := none) (by decide +kernel) rfl) rfl (by show 2 * 0 + _ ≤ _; omega) (X.de hd) (fun _ _ => ⟨rfl, X.eh, hc, hs⟩)
    dsimp only [Pt.U, Pt.locs, Pt.cells, Pt.slots] at Y' l1 y1 z1 sp q1 q2 q3 q4 q5 q6 q7 q8 q9 q10
    subst l1 y1 z1 q1
    exact ⟨T', T'.heap, Lc, Y', rfl, q3, q2, ⟨q4, t, kb, 0, _, _, q9, q5, q10, StrChars.Road.codOf rfl fun c hc => (hcs c hc).2, up _ hcs, hlen⟩, sp⟩
  exact Run.on sp (k T' h' L' X' K S)
theorem nar_i2c (x : Int32) : nar .char (x.toUInt32.toUInt16.toUInt32.toInt32) = x.toUInt32.toUInt16.toUInt32.toInt32 := by simp only [nar, UInt32.toUInt32_toInt32, UInt16.toUInt16_toUInt32]
theorem and255 (x : Int32) : ¬ ((x &&& (255 : Int32)).toUInt32.toUInt16.toUInt32.toInt32) < 0 ∧ ¬ (255 : Int32) < ((x &&& (255 : Int32)).toUInt32.toUInt16.toUInt32.toInt32) := by
  have t : ∀ k : Fin 256, ¬ ((Int32.ofNat k.val).toUInt32.toUInt16.toUInt32.toInt32) < 0 ∧ ¬ (255 : Int32) < ((Int32.ofNat k.val).toUInt32.toUInt16.toUInt32.toInt32) := by decide +kernel
  have h : (x &&& 255).toBitVec.toNat < 256 := by
    simp only [Int32.toBitVec_and, BitVec.toNat_and]
    exact Nat.lt_succ_of_le Nat.and_le_right
  have e : (x &&& 255) = Int32.ofNat (x &&& 255).toBitVec.toNat := by
    apply Int32.toBitVec_inj.mp
    show _ = BitVec.ofNat 32 _
    rw [BitVec.ofNat_toNat]; simp
  rw [e]
  exact t ⟨_, h⟩
/-- a char, that it is one -/
theorem i2c_rng (x : Int32) : ¬ (x.toUInt32.toUInt16.toUInt32.toInt32) < 0 ∧ ¬ (65535 : Int32) < (x.toUInt32.toUInt16.toUInt32.toInt32) := by
  obtain ⟨-, q1, q2⟩ := c_i2c x
  constructor
  · intro q; rw [Int32.lt_iff_toInt_lt] at q; have : (0 : Int32).toInt = 0 := rfl; omega
  · intro q; rw [Int32.lt_iff_toInt_lt] at q; have : (65535 : Int32).toInt = 65535 := rfl; omega
theorem nar_char {c : Int32} (h : ¬ c < 0 ∧ ¬ (65535 : Int32) < c) : nar .char c = c := by
  have q := c_i2c c
  have e : (nar .char c) = c.toUInt32.toUInt16.toUInt32.toInt32 := rfl
  rw [e]
  apply Int32.toInt_inj.mp
  rw [Int32.lt_iff_toInt_lt, Int32.lt_iff_toInt_lt] at h
  have : (0 : Int32).toInt = 0 := rfl
  have : (65535 : Int32).toInt = 65535 := rfl
  omega
/-- an instance method of a JDK class that moves nothing, by a pasted law -/
theorem Run.virtP (X : Sit Z a0 EL kb p l e R s m args below meth c own bytes maxL rt nm h0 ws sf T h locs cells slots) {y : MethodName} {index pc W : Nat} {Ls : Array Slot} {cls : String} {st argsL rest : List Value} {ps : List FieldType} {rr : Option FieldType} {V : Option Value → Prop}
    (bk : ∀ vm0, Z.Warmed39 (s.setVm vm0).vm → Back l R p e below (s.setVm vm0) args y 3 W (fun P b => b = (.ref a :: argsL).toArray ∧ P.U.heap = h ∧ P.cells + 0 ≤ R.cells ∧ P.slots + 0 ≤ R.slots) (fun P _ v B => ∃ L, (V v ∧ L = [] ∧ B.U.heap = h) ∧ B.locs = P.locs ++ L ∧ B.cells = P.cells + 0 ∧ B.slots = P.slots + 0))
    (E : Exa Z h a cls) (w1 : (Cond.methodLink own index y).before a0 Z = true) (wd : (Cond.declares y).before a0 Z = true) (w2 : (Cond.instanceMethod y).before a0 Z = true) (wl : (Cond.selects cls y y).before a0 Z = true) (hy : y.cls ≠ "java/lang/invoke/MethodHandle" ∧ y.cls ≠ "java/lang/invoke/VarHandle")
    (hds : parseMethodDescriptor y.desc = some ⟨ps, rr⟩) (hln : argsL.length = ps.length) (hst : st = argsL.reverse ++ .ref a :: rest) (hW : (rest.map fun v => v.category).sum ≤ W) (hsz : Ls.size = maxL) (hd : decode bytes pc = .ok (.invokevirtual index, 3)) (hc : cells ≤ R.cells) (hs : slots ≤ R.slots)
    (k : ∀ (v : Option Value) (T' : State), V v → Sit Z a0 EL kb p l e R s m args below meth c own bytes maxL rt nm h0 ws sf T' h locs cells slots → Run Z EL sv ko p e below s h0 ws Q kc ks T' (mkF m (pc + 3) Ls (v.toList ++ rest))) : Run Z EL sv ko p e below s h0 ws Q kc ks T (mkF m pc Ls st) := by
  obtain ⟨T', X', v, hv, sp⟩ := X.same (Q' := fun T' => ∃ v, V v ∧ Steps p.tables e below (T.setTop (mkF m pc Ls st)) (T'.setTop (mkF m (pc + 3) Ls (v.toList ++ rest)))) fun vm0 Y hZ ho => by
    obtain ⟨cq, kq, qa, qb, qc⟩ := isOf (s := s.setVm vm0) hZ X.eh E
    obtain ⟨v, _, ⟨T', L', k', n'⟩, -, Y', ⟨Lc, ⟨q1, q2, q3⟩, l1, y1, z1⟩, sp⟩ := Y.virtualBack X.ex (y := y) (z := y) ho (mv hZ w1) (mv hZ wd) (notFace_of_selects (args := #[]) (mv hZ wl)) (mv hZ wl) (mv hZ w2) hy (bk vm0 hZ) qa qc (g := mkF m pc Ls st) rfl (hsz.trans X.ml.symm) (Steps.refl _) (argsL := argsL) (rest := rest) (lenOf hds hln) hst (by show 2 * 0 + _ ≤ _; omega) (X.de hd) (fun _ _ => ⟨rfl, X.eh, hc, hs⟩)
    dsimp only [Pt.U, Pt.locs, Pt.cells, Pt.slots] at Y' l1 y1 z1 sp q1 q2 q3
    subst l1 y1 z1 q2
    simp only [List.append_nil] at Y'
    exact ⟨T', Y', q3, v, q1, sp⟩
  exact Run.on sp (k v T' hv X')
end Strs
end Jvm.Pilot.@@N@@
-- part strs
namespace Jvm.Pilot.@@N@@
open Jvm Jvm.ClassFile Sem Op Lib Jvm.Free Jvm.Stand Jvm.LawKit Jvm.RoadKit Bundle Jvm.Pilot.@@N@@.Jvm.D
theorem hwsLit {Z : State} {a0 : Array Value} (hw : ∀ d ∈ tables_1, d.before a0 Z = true) : ∀ d ∈ Bundle.stringAtoms, d.before a0 Z = true := fun d hd => hw d ((by decide +kernel : ∀ d ∈ Bundle.stringAtoms, d ∈ tables_1) d hd)
/-- 'ldc' of a String constant, whether the JVM holds it already or not -/
theorem Run.ldcS {Z : State} {a0 : Array Value} {EL : List (String × Nat)} {sv ko : Bool} {kb : Option Addr} {p : Program} {l : Launch} {e : Env} {R : Room} {s : State} {m : MethodId} {args : Array Value} {below : List Frame} {meth : Method} {c : Code} {own : String} {bytes : ByteArray} {maxL : Nat} {rt : Option FieldType} {nm : String} {h0 : Heap} {ws sf : List Addr} {T : State} {h : Heap} {locs : List Loc} {cells slots : Nat} {Q : Option Value → Heap → Prop} {kc ks : Nat} (hw : ∀ d ∈ tables_1, d.before a0 Z = true) (hN : NW = false) (X : Sit Z a0 EL kb p l e R s m args below meth c own bytes maxL rt nm h0 ws sf T h locs cells slots) {text : String} {cs : List Int32} {index pc n : Nat} {Ls : Array Slot} {st : List Value} (w : (Cond.stringLink own index text).before a0 Z = true) (hm : (own, index) ∈ EL)
    (ht : (∀ c ∈ text.toList, c.toNat < 256) ∧ text.toList.map (fun c => Value.int (Jvm.Lit.byteI c.toNat.toUInt16)) = (cs.map fun c => Value.int (StrChars.lo8 c))) (hcs : ∀ c ∈ cs, ¬ c < 0 ∧ ¬ (255 : Int32) < c) (hlen : cs.length ≤ 4000) (hd : decode bytes pc = .ok (.ldc index, 2)) (hn : 4 * text.toList.length ≤ n) (hbig : n ≤ 20000) (hc : cells + 2 ≤ R.cells) (hl' : slots + (n + 4) ≤ R.slots)
    (k : ∀ (a : Addr) (T' : State) (h' : Heap) (L : List Loc), Sit Z a0 EL none p l e R s m args below meth c own bytes maxL rt nm h0 ws sf T' h' (locs ++ L) (cells + 2) (slots + (n + 4)) → Keep h h' [] → Str Z h' a cs → Run Z EL sv ko p e below s h0 ws Q kc ks T' (mkF m (pc + 2) Ls (.ref a :: st))) : Run Z EL sv ko p e below s h0 ws Q kc ks T (mkF m pc Ls st) := by
  obtain ⟨T', h', L', sx, X', K, a, S, sp⟩ := X.reb (k := cells + 2) (n := slots + (n + 4)) (wz := []) (Q' := fun T' h' _ _ => ∃ a, Str Z h' a cs ∧ ∀ t, Steps p.tables e below (T'.setTop (mkF m (pc + 2) Ls (.ref a :: st))) t → Steps p.tables e below (T.setTop (mkF m pc Ls st)) t) (fun x hx => nomatch hx) fun vm0 k0 Y hZ ho hS hk H hs _ => by
    obtain ⟨a, T', h', k1, b, kb, Y', e', E, S1, hk1, hZ1, ho1, A1, F1, F2, V1, -, -, C1, -, -, st1⟩ := ldcCH Y X.ex hZ ho w (hwsLit hw) X.eh hS hk X.ew hm H (z := Int32.ofNat cs.length) ht (n32' hlen).1 (by rw [(n32' hlen).2]; simp) (g := mkF m pc Ls st) rfl (X.de hd) hn (by omega) hc hl'
    exact ⟨T', h', [], T'.vm, k1, [], by rw [List.append_nil]; exact Y', e', extK E, Fr.nil _, hZ1, ho1, S1, hk1, C1, (fun z => by rw [hN] at z; cases z), rfl, (fun _ z => nomatch z), a, ⟨A1, b, kb, 0, _, _, F2, F1, V1, Or.inl ⟨rfl, rfl, rfl, fun c hc => (hcs c hc).2⟩, up _ hcs, hlen⟩, st1⟩
  exact Run.via sp (k a T' h' L' ((X' none fun _ z => nomatch z).less fun x hx => List.mem_append_right _ hx) K S)
/-- 'ldc' of THE constant, the first time -/
theorem Run.ldcT {Z : State} {a0 : Array Value} {EL : List (String × Nat)} {sv ko : Bool} {kb : Option Addr} {p : Program} {l : Launch} {e : Env} {R : Room} {s : State} {m : MethodId} {args : Array Value} {below : List Frame} {meth : Method} {c : Code} {own : String} {bytes : ByteArray} {maxL : Nat} {rt : Option FieldType} {nm : String} {h0 : Heap} {ws sf : List Addr} {T : State} {h : Heap} {locs : List Loc} {cells slots : Nat} {Q : Option Value → Heap → Prop} {kc ks : Nat} (hw : ∀ d ∈ tables_1, d.before a0 Z = true) (hN : NW = false) (X : Sit Z a0 EL kb p l e R s m args below meth c own bytes maxL rt nm h0 ws sf T h locs cells slots) {text : String} {cs : List Int32} {index pc n : Nat} {Ls : Array Slot} {st : List Value} (w : (Cond.stringLink own index text).before a0 Z = true) (hm : (own, index) ∈ EL) (ho : own = KO) (hi : index = KI)
    (ht : (∀ c ∈ text.toList, c.toNat < 256) ∧ text.toList.map (fun c => Value.int (Jvm.Lit.byteI c.toNat.toUInt16)) = (cs.map fun c => Value.int (StrChars.lo8 c))) (hcs : ∀ c ∈ cs, ¬ c < 0 ∧ ¬ (255 : Int32) < c) (hlen : cs.length ≤ 4000) (hd : decode bytes pc = .ok (.ldc index, 2)) (hn : 4 * text.toList.length ≤ n) (hbig : n ≤ 20000) (hc : cells + 2 ≤ R.cells) (hl' : slots + (n + 4) ≤ R.slots)
    (k : ∀ (a : Addr) (T' : State) (h' : Heap) (L : List Loc), Sit Z a0 EL (some a) p l e R s m args below meth c own bytes maxL rt nm h0 ws sf T' h' (locs ++ L) (cells + 2) (slots + (n + 4)) → Keep h h' [] → Str Z h' a cs → Run Z EL sv ko p e below s h0 ws Q kc ks T' (mkF m (pc + 2) Ls (.ref a :: st))) : Run Z EL sv ko p e below s h0 ws Q kc ks T (mkF m pc Ls st) := by
  obtain ⟨T', h', L', sx, X', K, a, S, hk, sp⟩ := X.reb (k := cells + 2) (n := slots + (n + 4)) (wz := []) (Q' := fun T' h' _ _ => ∃ a, Str Z h' a cs ∧ Kn T'.vm (some a) ∧ ∀ t, Steps p.tables e below (T'.setTop (mkF m (pc + 2) Ls (.ref a :: st))) t → Steps p.tables e below (T.setTop (mkF m pc Ls st)) t) (fun x hx => nomatch hx) fun vm0 k0 Y hZ ho' hS hk H hs _ => by
    obtain ⟨a, T', h', k1, b, kb, Y', e', E, S1, hk1, hZ1, ho1, A1, F1, F2, V1, -, -, C1, L1, -, st1⟩ := ldcCH Y X.ex hZ ho' w (hwsLit hw) X.eh hS hk X.ew hm H (z := Int32.ofNat cs.length) ht (n32' hlen).1 (by rw [(n32' hlen).2]; simp) (g := mkF m pc Ls st) rfl (X.de hd) hn (by omega) hc hl'
    exact ⟨T', h', [], T'.vm, k1, [], by rw [List.append_nil]; exact Y', e', extK E, Fr.nil _, hZ1, ho1, S1, hk1, C1, (fun z => by rw [hN] at z; cases z), rfl, (fun _ z => nomatch z), a, ⟨A1, b, kb, 0, _, _, F2, F1, V1, Or.inl ⟨rfl, rfl, rfl, fun c hc => (hcs c hc).2⟩, up _ hcs, hlen⟩, (fun a' ha' => by cases ha'; subst ho hi; exact ⟨s, L1⟩), st1⟩
  exact Run.via sp (k a T' h' L' ((X' (some a) hk).less fun x hx => List.mem_append_right _ hx) K S)
/-- .. again: nothing is made -/
theorem Run.ldcK {Z : State} {a0 : Array Value} {EL : List (String × Nat)} {sv ko : Bool} {kb : Option Addr} {p : Program} {l : Launch} {e : Env} {R : Room} {s : State} {m : MethodId} {args : Array Value} {below : List Frame} {meth : Method} {c : Code} {own : String} {bytes : ByteArray} {maxL : Nat} {rt : Option FieldType} {nm : String} {h0 : Heap} {ws sf : List Addr} {T : State} {h : Heap} {locs : List Loc} {cells slots : Nat} {Q : Option Value → Heap → Prop} {kc ks : Nat} {ka : Addr} (X : Sit Z a0 EL (some ka) p l e R s m args below meth c own bytes maxL rt nm h0 ws sf T h locs cells slots) {text : String} {index pc : Nat} {Ls : Array Slot} {st : List Value} (w : (Cond.stringLink own index text).before a0 Z = true) (ho : own = KO) (hi : index = KI) (hd : decode bytes pc = .ok (.ldc index, 2)) (k : Run Z EL sv ko p e below s h0 ws Q kc ks T (mkF m (pc + 2) Ls (.ref ka :: st))) : Run Z EL sv ko p e below s h0 ws Q kc ks T (mkF m pc Ls st) := by
  obtain ⟨F, vm0, k0, Y, r1, r2, r3, r4, r5, r6, r7⟩ := id X
  obtain ⟨u, L⟩ := r7.2 ka rfl
  subst ho hi
  exact Run.via (ldcAgain (s := s) Y X.ex r1 r2 w (a := ka) L (g := mkF m pc Ls st) rfl (X.de hd)) k
end Jvm.Pilot.@@N@@
namespace Jvm.Pilot.@@N@@
open Jvm Jvm.ClassFile Sem Op Lib Jvm.Free Jvm.Stand Jvm.LawKit Jvm.RoadKit Bundle Jvm.Pilot.@@N@@.Jvm.D
theorem hwsChN {Z : State} {a0 : Array Value} (hw : ∀ d ∈ tables_1, d.before a0 Z = true) : ∀ d ∈ StrChars.Road.wordsChN, d.before a0 Z = true := fun d hd => hw d ((by decide +kernel : ∀ d ∈ StrChars.Road.wordsChN, d ∈ tables_1) d hd)
theorem Run.sch {Z : State} {a0 : Array Value} {EL : List (String × Nat)} {sv ko : Bool} {kb : Option Addr} {p : Program} {l : Launch} {e : Env} {R : Room} {s : State} {m : MethodId} {args : Array Value} {below : List Frame} {meth : Method} {c : Code} {own : String} {bytes : ByteArray} {maxL : Nat} {rt : Option FieldType} {nm : String} {h0 : Heap} {ws sf : List Addr} {T : State} {h : Heap} {locs : List Loc} {cells slots : Nat} {Q : Option Value → Heap → Prop} {kc ks : Nat} (hw : ∀ d ∈ tables_1, d.before a0 Z = true) (hS : Sets Z) (X : Sit Z a0 EL kb p l e R s m args below meth c own bytes maxL rt nm h0 ws sf T h locs cells slots) {a : Addr} {cs : List Int32} {index pc W i : Nat} {j : Int32} {Ls : Array Slot} {rest : List Value} (S : Str Z h a cs) (hlat : ∀ c ∈ cs, ¬ (255 : Int32) < c) (hj : j = Int32.ofNat i) (hi : i < cs.length)
    (w1 : (Cond.methodLink own index (⟨"java/lang/String", "charAt", "(I)C"⟩ : MethodName)).before a0 Z = true) (wd : (Cond.declares (⟨"java/lang/String", "charAt", "(I)C"⟩ : MethodName)).before a0 Z = true) (w2 : (Cond.instanceMethod (⟨"java/lang/String", "charAt", "(I)C"⟩ : MethodName)).before a0 Z = true) (wl : (Cond.selects "java/lang/String" (⟨"java/lang/String", "charAt", "(I)C"⟩ : MethodName) (⟨"java/lang/String", "charAt", "(I)C"⟩ : MethodName)).before a0 Z = true) (wi : (Cond.instantiable "java/lang/String" 4).before a0 Z = true)
    (hd : decode bytes pc = .ok (.invokevirtual index, 3)) (hsz : Ls.size = maxL) (hW : (rest.map fun v => v.category).sum ≤ W) (hf : 4 ≤ R.frames) (hl : W + 53 ≤ R.locals) (hc : cells ≤ R.cells) (hs : slots ≤ R.slots)
    (k : ∀ (T' : State), Sit Z a0 EL kb p l e R s m args below meth c own bytes maxL rt nm h0 ws sf T' h locs cells slots → Run Z EL sv ko p e below s h0 ws Q kc ks T' (mkF m (pc + 3) Ls (.int (cs.getD i 0) :: rest))) : Run Z EL sv ko p e below s h0 ws Q kc ks T (mkF m pc Ls (.int j :: .ref a :: rest)) := by
  obtain ⟨zz, fm, S1, S2, S3, S4⟩ := hS
  obtain ⟨E, t, kb, cd, N2, vs, V, C, A, r1, r2, r3⟩ := S
  obtain rfl : cd = 0 := by
    rcases r1 with r1 | ⟨-, -, -, c, hc, q⟩
    · exact r1.1
    · exact absurd q (hlat c hc)
  refine Run.virtP X (W := W) (V := fun v => v = some (.int (cs.getD i 0))) (fun vm0 hZ => StrChars.Road.chN hZ (hwsChN hw) wi E V C A r1 r2 (S1.ext X.old) S2 (S3.ext X.old) S4 r3 hi hj hf hl) E w1 wd w2 wl (by decide) (ps := [.int]) (rr := some .char) (by decide +kernel) (argsL := [.int j]) rfl rfl hW hsz hd hc hs ?_
  intro v T' hv X'
  subst hv
  exact k T' X'
end Jvm.Pilot.@@N@@
namespace Jvm.Pilot.@@N@@
open Jvm Jvm.ClassFile Sem Op Lib Jvm.Free Jvm.Stand Jvm.LawKit Jvm.RoadKit Bundle Jvm.Pilot.@@N@@.Jvm.D
theorem hwsLen {Z : State} {a0 : Array Value} (hw : ∀ d ∈ tables_1, d.before a0 Z = true) : ∀ d ∈ StrChars.Road.wordsLen, d.before a0 Z = true := fun d hd => hw d ((by decide +kernel : ∀ d ∈ StrChars.Road.wordsLen, d ∈ tables_1) d hd)
theorem Run.slen {Z : State} {a0 : Array Value} {EL : List (String × Nat)} {sv ko : Bool} {kb : Option Addr} {p : Program} {l : Launch} {e : Env} {R : Room} {s : State} {m : MethodId} {args : Array Value} {below : List Frame} {meth : Method} {c : Code} {own : String} {bytes : ByteArray} {maxL : Nat} {rt : Option FieldType} {nm : String} {h0 : Heap} {ws sf : List Addr} {T : State} {h : Heap} {locs : List Loc} {cells slots : Nat} {Q : Option Value → Heap → Prop} {kc ks : Nat} (hw : ∀ d ∈ tables_1, d.before a0 Z = true) (hS : Sets Z) (X : Sit Z a0 EL kb p l e R s m args below meth c own bytes maxL rt nm h0 ws sf T h locs cells slots) {a : Addr} {cs : List Int32} {index pc W : Nat} {Ls : Array Slot} {rest : List Value} (S : Str Z h a cs)
    (w1 : (Cond.methodLink own index (⟨"java/lang/String", "length", "()I"⟩ : MethodName)).before a0 Z = true) (wd : (Cond.declares (⟨"java/lang/String", "length", "()I"⟩ : MethodName)).before a0 Z = true) (w2 : (Cond.instanceMethod (⟨"java/lang/String", "length", "()I"⟩ : MethodName)).before a0 Z = true) (wl : (Cond.selects "java/lang/String" (⟨"java/lang/String", "length", "()I"⟩ : MethodName) (⟨"java/lang/String", "length", "()I"⟩ : MethodName)).before a0 Z = true) (wi : (Cond.instantiable "java/lang/String" 4).before a0 Z = true)
    (hd : decode bytes pc = .ok (.invokevirtual index, 3)) (hsz : Ls.size = maxL) (hW : (rest.map fun v => v.category).sum ≤ W) (hf : 2 ≤ R.frames) (hl : W + 25 ≤ R.locals) (hc : cells ≤ R.cells) (hs : slots ≤ R.slots)
    (k : ∀ (T' : State), Sit Z a0 EL kb p l e R s m args below meth c own bytes maxL rt nm h0 ws sf T' h locs cells slots → Run Z EL sv ko p e below s h0 ws Q kc ks T' (mkF m (pc + 3) Ls (.int (Int32.ofNat cs.length) :: rest))) : Run Z EL sv ko p e below s h0 ws Q kc ks T (mkF m pc Ls (.ref a :: rest)) := by
  obtain ⟨zz, fm, S1, S2, S3, S4⟩ := hS
  obtain ⟨E, t, kb, cd, N2, vs, V, C, A, r1, r2, r3⟩ := S
  refine Run.virtP X (W := W) (V := fun v => v = some (.int (Int32.ofNat cs.length))) (fun vm0 hZ => StrChars.Road.lenW hZ (hwsLen hw) wi E V C A r1 r2 (S1.ext X.old) S2 r3 hf hl) E w1 wd w2 wl (by decide) (ps := []) (rr := some .int) (by decide +kernel) (argsL := []) rfl rfl hW hsz hd hc hs ?_
  intro v T' hv X'
  subst hv
  exact k T' X'
end Jvm.Pilot.@@N@@
-- part own
namespace Jvm.Pilot.@@N@@
open Jvm Jvm.ClassFile Sem Op Lib Jvm.Free Jvm.Stand Jvm.LawKit Jvm.RoadKit Bundle Jvm.Pilot.@@N@@.Jvm.D
theorem setsOf {s : State} {args : Array Value} (hsets : ∀ d ∈ jdkStatics_1, d.before args s = true) : Sets s := by
  have n5 := not_v (Cond.before_iff.mp (hsets _ (List.mem_of_getElem? (i := 2) rfl)))
  obtain ⟨i1, e1⟩ := is_v (Cond.before_iff.mp (hsets _ (List.mem_of_getElem? (i := 1) rfl)))
  obtain ⟨v3, e3, r3⟩ := isR_v (Cond.before_iff.mp (hsets _ (List.mem_of_getElem? (i := 8) rfl)))
  exact ⟨i1, v3, Sta.start e1 (Or.inl (hsets _ (List.mem_of_getElem? (i := 0) rfl))), gotF (Cond.eq_ints e1 (Term.int_eval (0))) n5, Sta.start e3 (Or.inl (hsets _ (List.mem_of_getElem? (i := 7) rfl))), r3⟩
theorem ls0 {P : Int32 → Prop} : ∀ c ∈ ([] : List Int32), P c := fun _ q => nomatch q
theorem lsS {P : Int32 → Prop} {y : Int32} {L : List Int32} (q : P y) (r : ∀ c ∈ L, P c) : ∀ c ∈ y :: L, P c := fun x z => (List.mem_cons.mp z).elim (fun u => u ▸ q) (r x)
theorem nar_lat {c : Int32} (h : ¬ c < 0 ∧ ¬ (255 : Int32) < c) : nar .char c = c := nar_char ⟨h.1, fun q => h.2 (by rw [Int32.lt_iff_toInt_lt] at q ⊢; have e1 : (65535 : Int32).toInt = 65535 := rfl; have e2 : (255 : Int32).toInt = 255 := rfl; omega)⟩

theorem i32lt {a b : Nat} (ha : a ≤ 100000) (hb : b ≤ 100000) : Int32.ofNat a < Int32.ofNat b ↔ a < b := by
  have e1 : (Int32.ofNat a).toInt = a := Int32.toInt_ofNat_small (by omega)
  have e2 : (Int32.ofNat b).toInt = b := Int32.toInt_ofNat_small (by omega)
  rw [Int32.lt_iff_toInt_lt, e1, e2]; omega
theorem i32eq {a b : Nat} (ha : a ≤ 100000) (hb : b ≤ 100000) : Int32.ofNat a = Int32.ofNat b ↔ a = b := by
  have e1 : (Int32.ofNat a).toInt = a := Int32.toInt_ofNat_small (by omega)
  have e2 : (Int32.ofNat b).toInt = b := Int32.toInt_ofNat_small (by omega)
  rw [← Int32.toInt_inj, e1, e2]; omega
theorem i32of {x : Int32} {n : Nat} (h : x.toInt = n) (hn : n ≤ 100000) : x = Int32.ofNat n := by
  apply Int32.toInt_inj.mp; rw [h, Int32.toInt_ofNat_small (by omega)]
theorem i32n {n : Nat} (hn : n ≤ 100000) : (Int32.ofNat n).toInt = n := Int32.toInt_ofNat_small (by omega)
theorem i32add {a b : Nat} (h : a + b ≤ 100000) : Int32.ofNat a + Int32.ofNat b = Int32.ofNat (a + b) := by
  apply i32of _ h
  have q := c_iadd (Int32.ofNat a) (Int32.ofNat b); have r := rng32 (Int32.ofNat a + Int32.ofNat b)
  rw [i32n (by omega), i32n (by omega)] at q; omega
theorem i32succ {a : Nat} (h : a < 100000) : Int32.ofNat a + (1 : Int32) = Int32.ofNat (a + 1) := i32add (b := 1) h
theorem shl1 {n : Nat} (h : n ≤ 10000) : Int32.ofNat n <<< ((1 : Int32) &&& 31) = Int32.ofNat (2 * n) := by
  apply i32of _ (by omega)
  have q := c_ishl (Int32.ofNat n) 1 1 (by decide); have r := rng32 (Int32.ofNat n <<< ((1 : Int32) &&& 31))
  rw [i32n (by omega)] at q; omega
theorem mem_getD {cs : List Int32} {i : Nat} (h : i < cs.length) : cs.getD i 0 ∈ cs := by rw [List.getD_eq_getElem?_getD, List.getElem?_eq_getElem h]; exact List.getElem_mem h
theorem i32pred {a : Nat} (h0 : 0 < a) (h : a ≤ 100000) : Int32.ofNat a - (1 : Int32) = Int32.ofNat (a - 1) := by
  apply i32of _ (by omega)
  have q := c_isub (Int32.ofNat a) 1; have r := rng32 (Int32.ofNat a - 1)
  rw [i32n (by omega)] at q; have : (1 : Int32).toInt = 1 := rfl; omega
theorem i32sub {a b : Nat} (h0 : b ≤ a) (h : a ≤ 100000) : Int32.ofNat a - Int32.ofNat b = Int32.ofNat (a - b) := by
  apply i32of _ (by omega)
  have q := c_isub (Int32.ofNat a) (Int32.ofNat b); have r := rng32 (Int32.ofNat a - Int32.ofNat b)
  rw [i32n (by omega), i32n (by omega)] at q; omega
theorem i32zero (x : Int32) : x + (0 : Int32) = x := by
  apply Int32.toInt_inj.mp
  have q := c_iadd x 0; have r := rng32 (x + 0); have r' := rng32 x; have : (0 : Int32).toInt = 0 := rfl; omega
theorem lo8_in {x y : Int32} (hx : ¬ x < 0 ∧ ¬ (255 : Int32) < x) (hy : ¬ y < 0 ∧ ¬ (255 : Int32) < y) (h : StrChars.lo8 x = StrChars.lo8 y) : x = y := by
  apply Int32.toInt_inj.mp
  obtain ⟨a1, a2, a3⟩ := c_i2b x
  obtain ⟨b1, b2, b3⟩ := c_i2b y
  have e1 : StrChars.lo8 x = x.toInt8.toInt32 := rfl
  have e2 : StrChars.lo8 y = y.toInt8.toInt32 := rfl
  rw [e1, e2] at h; rw [h] at a1
  simp only [Int32.lt_iff_toInt_lt] at hx hy
  have : (0 : Int32).toInt = 0 := rfl; have : (255 : Int32).toInt = 255 := rfl; omega
theorem map_getD (cs : List Int32) (i : Nat) (hi : i < cs.length) : (cs.map StrChars.lo8).getD i 0 = StrChars.lo8 (cs.getD i 0) := by
  simp [List.getD_eq_getElem?_getD, List.getElem?_eq_getElem hi]
/-- a Latin-1 text -/
def Lat (cs : List Int32) : Prop := ∀ c ∈ cs, ¬ c < 0 ∧ ¬ (255 : Int32) < c
theorem Str.lat {Z : State} {h : Heap} {a : Addr} {cs : List Int32} (S : Str Z h a cs) (hl : Lat cs) : Exa Z h a "java/lang/String" ∧ cs.length ≤ 4000 ∧ ∃ t : Addr, Fld Z h a "java/lang/String" "value" "[B" (.ref t) ∧ Fld Z h a "java/lang/String" "coder" "B" (.int 0) ∧ Arc .byte Z h t (cs.map StrChars.lo8) := by
  obtain ⟨E, t, kb, cd, N2, vs, V, C, A, r1, r2, r3⟩ := S
  rcases r1 with ⟨rfl, rfl, rfl, q⟩ | ⟨rfl, rfl, rfl, c, hc, q⟩
  · refine ⟨E, r3, t, V, C, ⟨kb, ?_, by simpa using r3⟩⟩
    simpa [List.map_map, Function.comp_def] using A
  · exact absurd q (hl c hc).2
theorem Str.ofLat {Z : State} {h : Heap} {a t : Addr} {cs : List Int32} (E : Exa Z h a "java/lang/String") (V : Fld Z h a "java/lang/String" "value" "[B" (.ref t)) (C : Fld Z h a "java/lang/String" "coder" "B" (.int 0)) (A : Arc .byte Z h t (cs.map StrChars.lo8)) (hl : Lat cs) : Str Z h a cs := by
  obtain ⟨k, A, r⟩ := A
  refine ⟨E, t, k, 0, _, _, V, C, A, Or.inl ⟨rfl, by simp, by simp [List.map_map, Function.comp_def], fun c hc => (hl c hc).2⟩, up _ hl, by simpa using r⟩
theorem Lat.sub {cs : List Int32} (h : Lat cs) (b n : Nat) : Lat ((cs.drop b).take n) := fun c hc => h c (List.mem_of_mem_drop (List.mem_of_mem_take hc))
theorem latKT : Lat KT := lsS (by decide) (lsS (by decide) (lsS (by decide) (lsS (by decide) (lsS (by decide) (lsS (by decide) (lsS (by decide) (lsS (by decide) (lsS (by decide) (lsS (by decide) (lsS (by decide) (lsS (by decide) (lsS (by decide) (lsS (by decide) (lsS (by decide) (lsS (by decide) (lsS (by decide) (lsS (by decide) (ls0))))))))))))))))))
theorem nar_lo8 (x : Int32) : nar .byte (StrChars.lo8 x) = StrChars.lo8 x := by
  apply Int32.toInt_inj.mp
  obtain ⟨a1, a2, a3⟩ := c_i2b x
  obtain ⟨b1, b2, b3⟩ := c_i2b (StrChars.lo8 x)
  have e : StrChars.lo8 x = x.toInt8.toInt32 := rfl
  have e' : nar .byte (StrChars.lo8 x) = (StrChars.lo8 x).toInt8.toInt32 := rfl
  rw [e']; rw [e] at b1 b2 b3 ⊢; omega
theorem nar_b {P : Prop} [Decidable P] : nar .boolean (if P then 1 else 0 : Int32) = if P then 1 else 0 := by
  by_cases h : P
  · rw [if_pos h]; rfl
  · rw [if_neg h]; rfl
theorem lat_nat {c : Int32} (h : ¬ c < 0 ∧ ¬ (255 : Int32) < c) : ∃ k : Fin 256, c = Int32.ofNat k.val := by
  simp only [Int32.lt_iff_toInt_lt] at h
  have e0 : (0 : Int32).toInt = 0 := rfl
  have e1 : (255 : Int32).toInt = 255 := rfl
  refine ⟨⟨c.toInt.toNat, by omega⟩, i32of ?_ (by show c.toInt.toNat ≤ _; omega)⟩
  show c.toInt = (c.toInt.toNat : Int); omega
theorem and31 (x : Int32) : ∃ k : Nat, k < 32 ∧ (x &&& (31 : Int32)) = Int32.ofNat k := by
  have q := c_and x 31 (by decide)
  have : (31 : Int32).toInt = 31 := rfl
  exact ⟨(x &&& 31).toInt.toNat, by omega, i32of (by omega) (by omega)⟩
/-- what CharacterDataLatin1.equalsIgnoreCase says of two bytes -/
def eicV (x y : Int32) : Int32 := if x = y then 1 else if (x &&& 223) < 65 then 0 else if (90 : Int32) < (x &&& 223) then (if (x &&& 223) < 192 then 0 else if (222 : Int32) < (x &&& 223) then 0 else if (x &&& 223) = 215 then 0 else if (x &&& 223) = (y &&& 223) then 1 else 0) else if (x &&& 223) = (y &&& 223) then 1 else 0
theorem eic_self (x : Int32) : eicV x x = 1 := if_pos rfl
theorem eic_cap {p : Int32} (h : ¬ p < 0 ∧ ¬ (255 : Int32) < p) (q : ¬ p < 97 ∧ ¬ (122 : Int32) < p) : eicV (StrChars.lo8 ((p - (32 : Int32)).toUInt32.toUInt16.toUInt32.toInt32)) (StrChars.lo8 p) = 1 := by
  obtain ⟨k, rfl⟩ := lat_nat h
  exact (by decide +kernel : ∀ k : Fin 256, (¬ Int32.ofNat k.val < 97 ∧ ¬ (122 : Int32) < Int32.ofNat k.val) → eicV (StrChars.lo8 ((Int32.ofNat k.val - (32 : Int32)).toUInt32.toUInt16.toUInt32.toInt32)) (StrChars.lo8 (Int32.ofNat k.val)) = 1) k q
theorem cap_lat {p : Int32} (h : ¬ p < 0 ∧ ¬ (255 : Int32) < p) (q : ¬ p < 97 ∧ ¬ (122 : Int32) < p) : ¬ ((p - (32 : Int32)).toUInt32.toUInt16.toUInt32.toInt32) < 0 ∧ ¬ (255 : Int32) < ((p - (32 : Int32)).toUInt32.toUInt16.toUInt32.toInt32) := by
  obtain ⟨k, rfl⟩ := lat_nat h
  exact (by decide +kernel : ∀ k : Fin 256, (¬ Int32.ofNat k.val < 97 ∧ ¬ (122 : Int32) < Int32.ofNat k.val) → ¬ ((Int32.ofNat k.val - (32 : Int32)).toUInt32.toUInt16.toUInt32.toInt32) < 0 ∧ ¬ (255 : Int32) < ((Int32.ofNat k.val - (32 : Int32)).toUInt32.toUInt16.toUInt32.toInt32)) k q
def aeB (f : Nat → Int32) : Bool := (List.range 18).all fun j => decide (¬ f j = 0)
theorem aeB_iff {f : Nat → Int32} : aeB f = true ↔ ∀ j, j < 18 → ¬ f j = 0 := by
  unfold aeB
  rw [List.all_eq_true]
  exact ⟨fun q j hj => of_decide_eq_true (q j (List.mem_range.mpr hj)), fun q j hj => decide_eq_true (q j (List.mem_range.mp hj))⟩
/-- what 'at' gives -/
def AtR (i : Nat) (ps ch d : Int32) : Prop := (Int32.ofNat i = ps → d = ch) ∧ (¬ Int32.ofNat i = ps → i < 18 → eicV (StrChars.lo8 d) (StrChars.lo8 (KT.getD i 0)) = 1) ∧ ¬ d < 0 ∧ ¬ (255 : Int32) < d
theorem AE_congr {f g : Nat → Int32} (h : ∀ j, j < 18 → f j = g j) : aeB f = true ↔ aeB g = true := by
  rw [aeB_iff, aeB_iff]
  exact ⟨fun q j hj => by rw [← h j hj]; exact q j hj, fun q j hj => by rw [h j hj]; exact q j hj⟩
theorem rmV {cs : List Int32} (h : 18 ≤ cs.length) : (if aeB (fun j => eicV ((cs.map StrChars.lo8).getD j 0) ((KT.map StrChars.lo8).getD j 0)) = true then 1 else 0 : Int32) = if 18 ≤ cs.length ∧ aeB (fun j => eicV (StrChars.lo8 (cs.getD j 0)) (StrChars.lo8 (KT.getD j 0))) = true then 1 else 0 := by
  have e : (aeB (fun j => eicV ((cs.map StrChars.lo8).getD j 0) ((KT.map StrChars.lo8).getD j 0)) = true) ↔ (18 ≤ cs.length ∧ aeB (fun j => eicV (StrChars.lo8 (cs.getD j 0)) (StrChars.lo8 (KT.getD j 0))) = true) := by
    exact (AE_congr fun j hj => by rw [map_getD cs j (by omega), map_getD KT j (by show j < 18; omega)]).trans ⟨fun q => ⟨h, q⟩, fun q => q.2⟩
  by_cases z : aeB (fun j => eicV ((cs.map StrChars.lo8).getD j 0) ((KT.map StrChars.lo8).getD j 0)) = true
  · rw [if_pos z, if_pos (e.mp z)]
  · rw [if_neg z, if_neg (fun y => z (e.mpr y))]
theorem take_getD {cs : List Int32} {m j : Nat} (h : j < m) : (cs.take m).getD j 0 = cs.getD j 0 := by
  rw [List.getD_eq_getElem?_getD, List.getD_eq_getElem?_getD, List.getElem?_take_of_lt h]
theorem expV {D : List Int32} {n : Nat} (hl : (D.take n).length = n) (h : 18 ≤ n) : (if 18 ≤ (D.take n).length ∧ aeB (fun j => eicV (StrChars.lo8 ((D.take n).getD j 0)) (StrChars.lo8 (KT.getD j 0))) = true then 1 else 0 : Int32) = if aeB (fun j => eicV (StrChars.lo8 (D.getD j 0)) (StrChars.lo8 (KT.getD j 0))) = true then 1 else 0 := by
  have e : (18 ≤ (D.take n).length ∧ aeB (fun j => eicV (StrChars.lo8 ((D.take n).getD j 0)) (StrChars.lo8 (KT.getD j 0))) = true) ↔ (aeB (fun j => eicV (StrChars.lo8 (D.getD j 0)) (StrChars.lo8 (KT.getD j 0))) = true) := by
    rw [hl]
    exact Iff.trans ⟨fun q => q.2, fun q => ⟨h, q⟩⟩ (AE_congr fun j hj => by rw [take_getD (show j < n by omega)])
  by_cases z : aeB (fun j => eicV (StrChars.lo8 (D.getD j 0)) (StrChars.lo8 (KT.getD j 0))) = true
  · rw [if_pos z, if_pos (e.mpr z)]
  · rw [if_neg z, if_neg (fun y => z (e.mp y))]
theorem eic_kt : ∀ k : Fin 18, ∀ c : Fin 256, eicV (StrChars.lo8 (Int32.ofNat c.val)) (StrChars.lo8 (KT.getD k.val 0)) = if (Int32.ofNat c.val = KT.getD k.val 0 ∨ ((¬ KT.getD k.val 0 < 97 ∧ ¬ (122 : Int32) < KT.getD k.val 0) ∧ Int32.ofNat c.val = (KT.getD k.val 0 - (32 : Int32)).toUInt32.toUInt16.toUInt32.toInt32)) then 1 else 0 := by decide +kernel
theorem okV {D : List Int32} {k : Nat} {ch ok : Int32} (hk : k < 18) (rest : ∀ j, j < 18 → ¬ j = k → ¬ eicV (StrChars.lo8 (D.getD j 0)) (StrChars.lo8 (KT.getD j 0)) = 0) (dk : D.getD k 0 = ch) (rc : ¬ ch < 0 ∧ ¬ (255 : Int32) < ch)
    (h : ok = if (ch = KT.getD k 0 ∨ ((¬ KT.getD k 0 < 97 ∧ ¬ (122 : Int32) < KT.getD k 0) ∧ ch = (KT.getD k 0 - (32 : Int32)).toUInt32.toUInt16.toUInt32.toInt32)) then 1 else 0) : ok = if aeB (fun j => eicV (StrChars.lo8 (D.getD j 0)) (StrChars.lo8 (KT.getD j 0))) = true then 1 else 0 := by
  obtain ⟨c, rfl⟩ := lat_nat rc
  have q := eic_kt ⟨k, hk⟩ c
  rw [← h] at q
  rw [← dk] at q
  by_cases z : ok = 0
  · rw [if_neg (fun y : aeB (fun j => eicV (StrChars.lo8 (D.getD j 0)) (StrChars.lo8 (KT.getD j 0))) = true => aeB_iff.mp y k hk (q.trans z)), z]
  · rw [if_pos (show aeB (fun j => eicV (StrChars.lo8 (D.getD j 0)) (StrChars.lo8 (KT.getD j 0))) = true from aeB_iff.mpr (fun j hj => if e : j = k then e ▸ fun y => z (q.symm.trans y) else rest j hj e))]
    rw [h]
    by_cases y : (Int32.ofNat c.val = KT.getD k 0 ∨ ((¬ KT.getD k 0 < 97 ∧ ¬ (122 : Int32) < KT.getD k 0) ∧ Int32.ofNat c.val = (KT.getD k 0 - (32 : Int32)).toUInt32.toUInt16.toUInt32.toInt32))
    · rw [if_pos y]
    · rw [h, if_neg y] at z; exact absurd rfl z
theorem Str.keepC {Z : State} {a0 : Array Value} {h h' : Heap} {a x : Addr} {cs ds : List Int32} (S : Str Z h a cs) (A : Arc .char Z h x ds) (K : Keep h h' [x]) (wi : (Cond.instantiable "java/lang/String" 4).before a0 Z = true) : Str Z h' a cs := by
  obtain ⟨E, t, kb, cd, N2, vs, V, C, B, r⟩ := S
  obtain ⟨kA, VA, -⟩ := A
  have n1 : a ≠ x := E.neArv VA wi
  have n2 : t ≠ x := fun e => by
    subst e
    obtain ⟨c1, A1, -⟩ := VA
    obtain ⟨c2, A2, -⟩ := B
    have ec := A1.1.symm.trans A2.1
    cases ec
    obtain ⟨-, k1, h1, p1, e1⟩ := A1.2.1
    obtain ⟨-, k2, h2, p2, e2⟩ := A2.2.1
    cases h1.symm.trans h2
    rw [e1] at e2; cases e2
  exact ⟨E.keep K, t, kb, cd, N2, vs, V.keep K (ninS n1 nin0), C.keep K (ninS n1 nin0), B.keep K (ninS n2 nin0), r⟩
theorem Sit.forget {Z : State} {a0 : Array Value} {EL : List (String × Nat)} {kb : Option Addr} {p : Program} {l : Launch} {e : Env} {R : Room} {s : State} {m : MethodId} {args : Array Value} {below : List Frame} {meth : Method} {c : Code} {own : String} {bytes : ByteArray} {maxL : Nat} {rt : Option FieldType} {nm : String} {h0 : Heap} {ws sf : List Addr} {T : State} {h : Heap} {locs : List Loc} {cells slots : Nat} (X : Sit Z a0 EL kb p l e R s m args below meth c own bytes maxL rt nm h0 ws sf T h locs cells slots) : Sit Z a0 EL none p l e R s m args below meth c own bytes maxL rt nm h0 ws sf T h locs cells slots := by
  obtain ⟨F, vm0, k0, Y, r1, r2, r3, r4, r5, r6, r7⟩ := X
  exact ⟨F, vm0, k0, Y, r1, r2, r3, r4, r5, r6, r7.1, fun _ z => nomatch z⟩
theorem pd___B : parseMethodDescriptor "()B" = some ⟨[], some .byte⟩ := by decide +kernel
theorem pd__BB_Z : parseMethodDescriptor "(BB)Z" = some ⟨[.byte, .byte], some .boolean⟩ := by decide +kernel
theorem pd__C_Ljava_lang_String_ : parseMethodDescriptor "(C)Ljava/lang/String;" = some ⟨[.char], some (.object "java/lang/String")⟩ := by decide +kernel
theorem pd__C_Z : parseMethodDescriptor "(C)Z" = some ⟨[.char], some .boolean⟩ := by decide +kernel
theorem pd__C__B : parseMethodDescriptor "(C)[B" = some ⟨[.char], some (.array .byte)⟩ := by decide +kernel
theorem pd__I_C : parseMethodDescriptor "(I)C" = some ⟨[.int], some .char⟩ := by decide +kernel
theorem pd__IIICI_C : parseMethodDescriptor "(IIICI)C" = some ⟨[.int, .int, .int, .char, .int], some .char⟩ := by decide +kernel
theorem pd__Ljava_lang_String__Z : parseMethodDescriptor "(Ljava/lang/String;)Z" = some ⟨[(.object "java/lang/String")], some .boolean⟩ := by decide +kernel
theorem pd__ZILjava_lang_String_II_Z : parseMethodDescriptor "(ZILjava/lang/String;II)Z" = some ⟨[.boolean, .int, (.object "java/lang/String"), .int, .int], some .boolean⟩ := by decide +kernel
theorem pd___BB_V : parseMethodDescriptor "([BB)V" = some ⟨[(.array .byte), .byte], none⟩ := by decide +kernel
theorem pd___BI_BII_Z : parseMethodDescriptor "([BI[BII)Z" = some ⟨[(.array .byte), .int, (.array .byte), .int, .int], some .boolean⟩ := by decide +kernel
-- part con_cd
theorem cdd_0 : decode jdk_42_method_152_code 0 = .ok (.getstatic 38, 3) := by decide +kernel
theorem cdd_3 : decode jdk_42_method_152_code 3 = .ok (.ifCond .eq 10, 3) := by decide +kernel
theorem cdd_6 : decode jdk_42_method_152_code 6 = .ok (.aload_n 0, 1) := by decide +kernel
theorem cdd_7 : decode jdk_42_method_152_code 7 = .ok (.getfield 15, 3) := by decide +kernel
theorem cdd_10 : decode jdk_42_method_152_code 10 = .ok (.goto 4, 3) := by decide +kernel
theorem cdd_14 : decode jdk_42_method_152_code 14 = .ok (.ireturn, 1) := by decide +kernel
set_option maxRecDepth 65536 in
set_option maxHeartbeats 40000000 in
theorem con_cd (l : Launch) {Z : State} {a0 : Array Value} {EL : List (String × Nat)} {h0 : Heap} (hw : ∀ d ∈ tables_1, d.before a0 Z = true) (hS : Sets Z) {a : Addr} (F : Fld Z h0 a "java/lang/String" "coder" "B" (.int 0)) (O : Ext Z.heap h0) : Con l Z a0 EL false none false (⟨"java/lang/String", "coder", "()B"⟩ : MethodName) jdk_42_method_152_code 1 (some .byte) ({ frames := 0, cells := 0, slots := 0, locals := 0 } : Room) [] [] #[(.ref a)] h0 (fun v h => v = some (.int 0) ∧ h0 = h) := by
  obtain ⟨zz, fm, S1, S2, S3, S4⟩ := hS
  refine Con.enter (plainFor_of_name (by first | (simp [plainName, overriddenIn]; done) | decide +kernel)) O ?_
  intro p e s m below meth c T0 X0
  rw [show entryFrame m #[(.ref a)] 1 = (mkF m 0 #[.val (.ref a)] []) from by first | (simp [entryFrame, mkF, argsToLocals, Value.category]; done) | rfl]
  refine Run.gets X0 (wd hw 26 rfl) Via.refl S1 cdd_0 ?_
  intro T101 X101
  show Run _ _ _ _ _ _ _ _ _ _ _ _ _ T101 (mkF m 3 #[.val (.ref a)] [(.int zz)])
  refine Run.via (fun _ => XS.ifNo X101.at X101.ex rfl (X101.de cdd_3) rfl ((if0 _ _).trans (feq S2).1)) ?_
  show Run _ _ _ _ _ _ _ _ _ _ _ _ _ T101 (mkF m 6 #[.val (.ref a)] [])
  refine Run.via (fun _ => XS.aloadN X101.at X101.ex rfl (X101.de cdd_6) rfl rfl) ?_
  show Run _ _ _ _ _ _ _ _ _ _ _ _ _ T101 (mkF m 7 #[.val (.ref a)] [(.ref a)])
  refine Run.getf X101 (wd hw 27 rfl) Via.refl F cdd_7 ?_
  intro T102 X102
  show Run _ _ _ _ _ _ _ _ _ _ _ _ _ T102 (mkF m 10 #[.val (.ref a)] [(.int (0 : Int32))])
  refine Run.via (fun _ => XS.goto X102.at X102.ex rfl (pc0 := 10) (pc' := 14) rfl (X102.de cdd_10) (by decide) (by decide)) ?_
  show Run _ _ _ _ _ _ _ _ _ _ _ _ _ T102 (mkF m 14 #[.val (.ref a)] [(.int (0 : Int32))])
  exact Run.retN X102 (t := .byte) rfl (by simp) cdd_14 (Nat.le_of_ble_eq_true rfl) (Nat.le_of_ble_eq_true rfl) (⟨rfl, rfl⟩)
-- part con_il
theorem ild_0 : decode jdk_42_method_154_code 0 = .ok (.getstatic 38, 3) := by decide +kernel
theorem ild_3 : decode jdk_42_method_154_code 3 = .ok (.ifCond .eq 14, 3) := by decide +kernel
theorem ild_6 : decode jdk_42_method_154_code 6 = .ok (.aload_n 0, 1) := by decide +kernel
theorem ild_7 : decode jdk_42_method_154_code 7 = .ok (.getfield 15, 3) := by decide +kernel
theorem ild_10 : decode jdk_42_method_154_code 10 = .ok (.ifCond .ne 7, 3) := by decide +kernel
theorem ild_13 : decode jdk_42_method_154_code 13 = .ok (.iconst 1, 1) := by decide +kernel
theorem ild_14 : decode jdk_42_method_154_code 14 = .ok (.goto 4, 3) := by decide +kernel
theorem ild_18 : decode jdk_42_method_154_code 18 = .ok (.ireturn, 1) := by decide +kernel
set_option maxRecDepth 65536 in
set_option maxHeartbeats 40000000 in
theorem con_il (l : Launch) {Z : State} {a0 : Array Value} {EL : List (String × Nat)} {h0 : Heap} (hw : ∀ d ∈ tables_1, d.before a0 Z = true) (hS : Sets Z) {a : Addr} (F : Fld Z h0 a "java/lang/String" "coder" "B" (.int 0)) (O : Ext Z.heap h0) : Con l Z a0 EL false none false (⟨"java/lang/String", "isLatin1", "()Z"⟩ : MethodName) jdk_42_method_154_code 1 (some .boolean) ({ frames := 0, cells := 0, slots := 0, locals := 0 } : Room) [] [] #[(.ref a)] h0 (fun v h => v = some (.int 1) ∧ h0 = h) := by
  obtain ⟨zz, fm, S1, S2, S3, S4⟩ := hS
  refine Con.enter (plainFor_of_name (by first | (simp [plainName, overriddenIn]; done) | decide +kernel)) O ?_
  intro p e s m below meth c T0 X0
  rw [show entryFrame m #[(.ref a)] 1 = (mkF m 0 #[.val (.ref a)] []) from by first | (simp [entryFrame, mkF, argsToLocals, Value.category]; done) | rfl]
  refine Run.gets X0 (wd hw 26 rfl) Via.refl S1 ild_0 ?_
  intro T101 X101
  show Run _ _ _ _ _ _ _ _ _ _ _ _ _ T101 (mkF m 3 #[.val (.ref a)] [(.int zz)])
  refine Run.via (fun _ => XS.ifNo X101.at X101.ex rfl (X101.de ild_3) rfl ((if0 _ _).trans (feq S2).1)) ?_
  show Run _ _ _ _ _ _ _ _ _ _ _ _ _ T101 (mkF m 6 #[.val (.ref a)] [])
  refine Run.via (fun _ => XS.aloadN X101.at X101.ex rfl (X101.de ild_6) rfl rfl) ?_
  show Run _ _ _ _ _ _ _ _ _ _ _ _ _ T101 (mkF m 7 #[.val (.ref a)] [(.ref a)])
  refine Run.getf X101 (wd hw 27 rfl) Via.refl F ild_7 ?_
  intro T102 X102
  show Run _ _ _ _ _ _ _ _ _ _ _ _ _ T102 (mkF m 10 #[.val (.ref a)] [(.int (0 : Int32))])
  refine Run.via (fun _ => XS.ifNo X102.at X102.ex rfl (X102.de ild_10) rfl ((if0 _ _).trans (teq (by decide : ((0 : Int32) = (0 : Int32)))).2)) ?_
  show Run _ _ _ _ _ _ _ _ _ _ _ _ _ T102 (mkF m 13 #[.val (.ref a)] [])
  refine Run.via (fun _ => XS.iconst X102.at X102.ex rfl (X102.de ild_13)) ?_
  show Run _ _ _ _ _ _ _ _ _ _ _ _ _ T102 (mkF m 14 #[.val (.ref a)] [(.int (1 : Int32))])
  refine Run.via (fun _ => XS.goto X102.at X102.ex rfl (pc0 := 14) (pc' := 18) rfl (X102.de ild_14) (by decide) (by decide)) ?_
  show Run _ _ _ _ _ _ _ _ _ _ _ _ _ T102 (mkF m 18 #[.val (.ref a)] [(.int (1 : Int32))])
  exact Run.retN X102 (t := .boolean) rfl (by simp) ild_18 (Nat.le_of_ble_eq_true rfl) (Nat.le_of_ble_eq_true rfl) (⟨rfl, rfl⟩)
-- part con_sb
theorem sbd_0 : decode jdk_42_method_151_code 0 = .ok (.aload_n 0, 1) := by decide +kernel
theorem sbd_1 : decode jdk_42_method_151_code 1 = .ok (.invokespecial 1, 3) := by decide +kernel
theorem sbd_4 : decode jdk_42_method_151_code 4 = .ok (.aload_n 0, 1) := by decide +kernel
theorem sbd_5 : decode jdk_42_method_151_code 5 = .ok (.aload_n 1, 1) := by decide +kernel
theorem sbd_6 : decode jdk_42_method_151_code 6 = .ok (.putfield 9, 3) := by decide +kernel
theorem sbd_9 : decode jdk_42_method_151_code 9 = .ok (.aload_n 0, 1) := by decide +kernel
theorem sbd_10 : decode jdk_42_method_151_code 10 = .ok (.iload_n 2, 1) := by decide +kernel
theorem sbd_11 : decode jdk_42_method_151_code 11 = .ok (.putfield 15, 3) := by decide +kernel
theorem sbd_14 : decode jdk_42_method_151_code 14 = .ok (.return_, 1) := by decide +kernel
set_option maxRecDepth 65536 in
set_option maxHeartbeats 40000000 in
theorem con_sb (l : Launch) {Z : State} {a0 : Array Value} {EL : List (String × Nat)} {h0 : Heap} (hw : ∀ d ∈ tables_1, d.before a0 Z = true) {xa t : Addr} {cs : List Int32} (hl : Lat cs) (A : Arc .byte Z h0 t (cs.map StrChars.lo8)) (G : Raw Z h0 xa) (hz : Z.heap.size ≤ xa) (O : Ext Z.heap h0) : Con l Z a0 EL false none false (⟨"java/lang/String", "<init>", "([BB)V"⟩ : MethodName) jdk_42_method_151_code 3 none ({ frames := 1, cells := 0, slots := 0, locals := 16 } : Room) [xa] [xa] #[(.ref xa), (.ref t), (.int (0 : Int32))] h0 (fun v h => v = none ∧ Str Z h xa cs) := by
  refine Con.enter (plainFor_of_name (by first | (simp [plainName, overriddenIn]; done) | decide +kernel)) O ?_
  intro p e s m below meth c T0 X0
  rw [show entryFrame m #[(.ref xa), (.ref t), (.int (0 : Int32))] 3 = (mkF m 0 #[.val (.ref xa), .val (.ref t), .val (.int (0 : Int32))] []) from by first | (simp [entryFrame, mkF, argsToLocals, Value.category]; done) | rfl]
  refine Run.via (fun _ => XS.aloadN X0.at X0.ex rfl (X0.de sbd_0) rfl rfl) ?_
  show Run _ _ _ _ _ _ _ _ _ _ _ _ _ T0 (mkF m 1 #[.val (.ref xa), .val (.ref t), .val (.int (0 : Int32))] [(.ref xa)])
  refine Run.initO X0 (wd hw 49 rfl) (wd hw 50 rfl) (wd hw 51 rfl) rfl sbd_1 (by decide) (Nat.le_of_ble_eq_true rfl) ?_
  intro T101 X101
  show Run _ _ _ _ _ _ _ _ _ _ _ _ _ T101 (mkF m 4 #[.val (.ref xa), .val (.ref t), .val (.int (0 : Int32))] [])
  refine Run.via (fun _ => XS.aloadN X101.at X101.ex rfl (X101.de sbd_4) rfl rfl) ?_
  show Run _ _ _ _ _ _ _ _ _ _ _ _ _ T101 (mkF m 5 #[.val (.ref xa), .val (.ref t), .val (.int (0 : Int32))] [(.ref xa)])
  refine Run.via (fun _ => XS.aloadN X101.at X101.ex rfl (X101.de sbd_5) rfl rfl) ?_
  show Run _ _ _ _ _ _ _ _ _ _ _ _ _ T101 (mkF m 6 #[.val (.ref xa), .val (.ref t), .val (.int (0 : Int32))] [(.ref t), (.ref xa)])
  refine Run.putf X101 (wd hw 28 rfl) Via.refl G.2.1 G.1 (Or.inr ⟨(wd hw 12 rfl), rfl, rfl⟩) (wd hw 10 rfl) (ty := (.array .byte)) (v' := (.ref t)) (by decide) rfl rfl (Or.inl (List.mem_singleton.mpr rfl)) hz (Or.inr (by simp)) sbd_6 ?_
  intro T102 h102 L102 X102 K102 W102 F102 E102
  show Run _ _ _ _ _ _ _ _ _ _ _ _ _ T102 (mkF m 9 #[.val (.ref xa), .val (.ref t), .val (.int (0 : Int32))] [])
  have C0 := (G.2.2.other W102 (Or.inr (slot_ne (Or.inr (wd hw 13 rfl)) (Or.inr (wd hw 12 rfl)) (by decide) (t := .byte) (t' := (.array .byte)) (by decide) (by decide))))
  obtain ⟨kx, Vx, hx4⟩ := A
  have nx : t ≠ xa := Ne.symm (G.1.neArv Vx (wd hw 10 rfl))
  have V1 := Vx.keep K102 (ninS nx nin0)
  refine Run.via (fun _ => XS.aloadN X102.at X102.ex rfl (X102.de sbd_9) rfl rfl) ?_
  show Run _ _ _ _ _ _ _ _ _ _ _ _ _ T102 (mkF m 10 #[.val (.ref xa), .val (.ref t), .val (.int (0 : Int32))] [(.ref xa)])
  refine Run.via (fun _ => XS.iloadN X102.at X102.ex rfl (X102.de sbd_10) rfl) ?_
  show Run _ _ _ _ _ _ _ _ _ _ _ _ _ T102 (mkF m 11 #[.val (.ref xa), .val (.ref t), .val (.int (0 : Int32))] [(.int (0 : Int32)), (.ref xa)])
  refine Run.putf X102 (wd hw 27 rfl) Via.refl C0 E102 (Or.inr ⟨(wd hw 13 rfl), rfl, rfl⟩) (wd hw 10 rfl) (ty := .byte) (v' := (.int (0 : Int32))) (by decide) rfl rfl (Or.inl (List.mem_singleton.mpr rfl)) hz (Or.inr (by simp)) sbd_11 ?_
  intro T103 h103 L103 X103 K103 W103 F103 E103
  show Run _ _ _ _ _ _ _ _ _ _ _ _ _ T103 (mkF m 14 #[.val (.ref xa), .val (.ref t), .val (.int (0 : Int32))] [])
  have F1 := (F102.other W103 (Or.inr (slot_ne (Or.inr (wd hw 12 rfl)) (Or.inr (wd hw 13 rfl)) (by decide) (t := (.array .byte)) (t' := .byte) (by decide) (by decide))))
  have V2 := V1.keep K103 (ninS nx nin0)
  exact Run.retV X103 rfl sbd_14 (Nat.le_of_ble_eq_true rfl) (Nat.le_of_ble_eq_true rfl) (⟨rfl, Str.ofLat E103 F1 F103 ⟨kx, V2, hx4⟩ hl⟩)
-- part con_cc
theorem ccd_0 : decode jdk_43_method_3_code 0 = .ok (.iload_n 0, 1) := by decide +kernel
theorem ccd_1 : decode jdk_43_method_3_code 1 = .ok (.sipush 255, 3) := by decide +kernel
theorem ccd_4 : decode jdk_43_method_3_code 4 = .ok (.if_icmp .gt 7, 3) := by decide +kernel
theorem ccd_7 : decode jdk_43_method_3_code 7 = .ok (.iconst 1, 1) := by decide +kernel
theorem ccd_8 : decode jdk_43_method_3_code 8 = .ok (.goto 4, 3) := by decide +kernel
theorem ccd_12 : decode jdk_43_method_3_code 12 = .ok (.ireturn, 1) := by decide +kernel
set_option maxRecDepth 65536 in
set_option maxHeartbeats 40000000 in
theorem con_cc (l : Launch) {Z : State} {a0 : Array Value} {EL : List (String × Nat)} {h0 : Heap} (hw : ∀ d ∈ tables_1, d.before a0 Z = true) {ch : Int32} (r : ¬ ch < 0 ∧ ¬ (255 : Int32) < ch) (O : Ext Z.heap h0) : Con l Z a0 EL false none false (⟨"java/lang/StringLatin1", "canEncode", "(C)Z"⟩ : MethodName) jdk_43_method_3_code 1 (some .boolean) ({ frames := 0, cells := 0, slots := 0, locals := 0 } : Room) [] [] #[(.int ch)] h0 (fun v h => v = some (.int 1) ∧ h0 = h) := by
  refine Con.enter (plainFor_of_name (by first | (simp [plainName, overriddenIn]; done) | decide +kernel)) O ?_
  intro p e s m below meth c T0 X0
  rw [show entryFrame m #[(.int ch)] 1 = (mkF m 0 #[.val (.int ch)] []) from by first | (simp [entryFrame, mkF, argsToLocals, Value.category]; done) | rfl]
  refine Run.via (fun _ => XS.iloadN X0.at X0.ex rfl (X0.de ccd_0) rfl) ?_
  show Run _ _ _ _ _ _ _ _ _ _ _ _ _ T0 (mkF m 1 #[.val (.int ch)] [(.int ch)])
  refine Run.via (fun _ => XS.sipush X0.at X0.ex rfl (X0.de ccd_1)) ?_
  show Run _ _ _ _ _ _ _ _ _ _ _ _ _ T0 (mkF m 4 #[.val (.int ch)] [(.int (255 : Int32)), (.int ch)])
  refine Run.via (fun _ => XS.icmpNo X0.at X0.ex rfl (X0.de ccd_4) rfl (flt r.2).2.2.1) ?_
  show Run _ _ _ _ _ _ _ _ _ _ _ _ _ T0 (mkF m 7 #[.val (.int ch)] [])
  refine Run.via (fun _ => XS.iconst X0.at X0.ex rfl (X0.de ccd_7)) ?_
  show Run _ _ _ _ _ _ _ _ _ _ _ _ _ T0 (mkF m 8 #[.val (.int ch)] [(.int (1 : Int32))])
  refine Run.via (fun _ => XS.goto X0.at X0.ex rfl (pc0 := 8) (pc' := 12) rfl (X0.de ccd_8) (by decide) (by decide)) ?_
  show Run _ _ _ _ _ _ _ _ _ _ _ _ _ T0 (mkF m 12 #[.val (.int ch)] [(.int (1 : Int32))])
  exact Run.retN X0 (t := .boolean) rfl (by simp) ccd_12 (Nat.le_of_ble_eq_true rfl) (Nat.le_of_ble_eq_true rfl) (⟨rfl, rfl⟩)
-- part con_tb
theorem tbd_0 : decode jdk_43_method_46_code 0 = .ok (.iconst 1, 1) := by decide +kernel
theorem tbd_1 : decode jdk_43_method_46_code 1 = .ok (.newarray .byte, 2) := by decide +kernel
theorem tbd_3 : decode jdk_43_method_46_code 3 = .ok (.dup, 1) := by decide +kernel
theorem tbd_4 : decode jdk_43_method_46_code 4 = .ok (.iconst 0, 1) := by decide +kernel
theorem tbd_5 : decode jdk_43_method_46_code 5 = .ok (.iload_n 0, 1) := by decide +kernel
theorem tbd_6 : decode jdk_43_method_46_code 6 = .ok (.i2b, 1) := by decide +kernel
theorem tbd_7 : decode jdk_43_method_46_code 7 = .ok (.bastore, 1) := by decide +kernel
theorem tbd_8 : decode jdk_43_method_46_code 8 = .ok (.areturn, 1) := by decide +kernel
set_option maxRecDepth 65536 in
set_option maxHeartbeats 40000000 in
theorem con_tb (l : Launch) {Z : State} {a0 : Array Value} {EL : List (String × Nat)} {h0 : Heap} (hw : ∀ d ∈ tables_1, d.before a0 Z = true) {ch : Int32} (O : Ext Z.heap h0) : Con l Z a0 EL false none false (⟨"java/lang/StringLatin1", "toBytes", "(C)[B"⟩ : MethodName) jdk_43_method_46_code 1 (some (.array .byte)) ({ frames := 0, cells := 1, slots := 1, locals := 0 } : Room) [] [] #[(.int ch)] h0 (fun v h => ∃ x, v = some (.ref x) ∧ Arc .byte Z h x ([ch].map StrChars.lo8)) := by
  refine Con.enter (plainFor_of_name (by first | (simp [plainName, overriddenIn]; done) | decide +kernel)) O ?_
  intro p e s m below meth c T0 X0
  rw [show entryFrame m #[(.int ch)] 1 = (mkF m 0 #[.val (.int ch)] []) from by first | (simp [entryFrame, mkF, argsToLocals, Value.category]; done) | rfl]
  have ho := O.1
  refine Run.via (fun _ => XS.iconst X0.at X0.ex rfl (X0.de tbd_0)) ?_
  show Run _ _ _ _ _ _ _ _ _ _ _ _ _ T0 (mkF m 1 #[.val (.int ch)] [(.int (1 : Int32))])
  refine Run.newarr X0 (aty := .byte) (n := 1) (cap := 1) (wd hw 11 rfl) rfl tbd_1 rfl (Nat.le_refl _) (by decide) (Nat.le_of_ble_eq_true rfl) (Nat.le_of_ble_eq_true rfl) ?_
  intro T101 h101 x101 g101 X101 K101 z101 A101
  have A101 : Arc .byte Z h101 x101 [(0 : Int32)] := A101
  show Run _ _ _ _ _ _ _ _ _ _ _ _ _ T101 (mkF m 3 #[.val (.int ch)] [(.ref x101)])
  refine Run.via (fun _ => XS.dup X101.at X101.ex rfl (X101.de tbd_3) rfl rfl) ?_
  show Run _ _ _ _ _ _ _ _ _ _ _ _ _ T101 (mkF m 4 #[.val (.int ch)] [(.ref x101), (.ref x101)])
  refine Run.via (fun _ => XS.iconst X101.at X101.ex rfl (X101.de tbd_4)) ?_
  show Run _ _ _ _ _ _ _ _ _ _ _ _ _ T101 (mkF m 5 #[.val (.int ch)] [(.int (0 : Int32)), (.ref x101), (.ref x101)])
  refine Run.via (fun _ => XS.iloadN X101.at X101.ex rfl (X101.de tbd_5) rfl) ?_
  show Run _ _ _ _ _ _ _ _ _ _ _ _ _ T101 (mkF m 6 #[.val (.int ch)] [(.int ch), (.int (0 : Int32)), (.ref x101), (.ref x101)])
  refine Run.via (fun _ => XS.i2b X101.at X101.ex rfl (X101.de tbd_6) rfl) ?_
  show Run _ _ _ _ _ _ _ _ _ _ _ _ _ T101 (mkF m 7 #[.val (.int ch)] [(.int (ch.toInt8.toInt32)), (.int (0 : Int32)), (.ref x101), (.ref x101)])
  refine Run.bastore X101 (i := 0) (v' := (StrChars.lo8 ch)) A101 rfl (Nat.le_of_ble_eq_true rfl) (nar_lo8 _) (Or.inr (by omega)) (by omega) (by simp) tbd_7 ?_
  intro T102 h102 L102 X102 K102 z102 A102
  show Run _ _ _ _ _ _ _ _ _ _ _ _ _ T102 (mkF m 8 #[.val (.int ch)] [(.ref x101)])
  exact Run.retA X102 (t := (.array .byte)) rfl rfl rfl tbd_8 (Nat.le_of_ble_eq_true rfl) (Nat.le_of_ble_eq_true rfl) (⟨x101, rfl, A102⟩) (nofun)
-- part con_vo
theorem vod_0 : decode jdk_42_method_139_code 0 = .ok (.getstatic 38, 3) := by decide +kernel
theorem vod_3 : decode jdk_42_method_139_code 3 = .ok (.ifCond .eq 23, 3) := by decide +kernel
theorem vod_6 : decode jdk_42_method_139_code 6 = .ok (.iload_n 0, 1) := by decide +kernel
theorem vod_7 : decode jdk_42_method_139_code 7 = .ok (.invokestatic 1015, 3) := by decide +kernel
theorem vod_10 : decode jdk_42_method_139_code 10 = .ok (.ifCond .eq 16, 3) := by decide +kernel
theorem vod_13 : decode jdk_42_method_139_code 13 = .ok (.new 10, 3) := by decide +kernel
theorem vod_16 : decode jdk_42_method_139_code 16 = .ok (.dup, 1) := by decide +kernel
theorem vod_17 : decode jdk_42_method_139_code 17 = .ok (.iload_n 0, 1) := by decide +kernel
theorem vod_18 : decode jdk_42_method_139_code 18 = .ok (.invokestatic 1018, 3) := by decide +kernel
theorem vod_21 : decode jdk_42_method_139_code 21 = .ok (.iconst 0, 1) := by decide +kernel
theorem vod_22 : decode jdk_42_method_139_code 22 = .ok (.invokespecial 209, 3) := by decide +kernel
theorem vod_25 : decode jdk_42_method_139_code 25 = .ok (.areturn, 1) := by decide +kernel
set_option maxRecDepth 65536 in
set_option maxHeartbeats 40000000 in
theorem con_vo (l : Launch) {Z : State} {a0 : Array Value} {EL : List (String × Nat)} {h0 : Heap} (hw : ∀ d ∈ tables_1, d.before a0 Z = true) (hS : Sets Z) {ch : Int32} (r : ¬ ch < 0 ∧ ¬ (255 : Int32) < ch) (O : Ext Z.heap h0) : Con l Z a0 EL false none false (⟨"java/lang/String", "valueOf", "(C)Ljava/lang/String;"⟩ : MethodName) jdk_42_method_139_code 1 (some (.object "java/lang/String")) ({ frames := 2, cells := 2, slots := 5, locals := 40 } : Room) [] [] #[(.int ch)] h0 (fun v h => ∃ x, v = some (.ref x) ∧ Str Z h x [ch]) := by
  obtain ⟨zz, fm, S1, S2, S3, S4⟩ := hS
  refine Con.enter (plainFor_of_name (by first | (simp [plainName, overriddenIn]; done) | decide +kernel)) O ?_
  intro p e s m below meth c T0 X0
  rw [show entryFrame m #[(.int ch)] 1 = (mkF m 0 #[.val (.int ch)] []) from by first | (simp [entryFrame, mkF, argsToLocals, Value.category]; done) | rfl]
  have ho := O.1
  refine Run.gets X0 (wd hw 26 rfl) Via.refl S1 vod_0 ?_
  intro T101 X101
  show Run _ _ _ _ _ _ _ _ _ _ _ _ _ T101 (mkF m 3 #[.val (.int ch)] [(.int zz)])
  refine Run.via (fun _ => XS.ifNo X101.at X101.ex rfl (X101.de vod_3) rfl ((if0 _ _).trans (feq S2).1)) ?_
  show Run _ _ _ _ _ _ _ _ _ _ _ _ _ T101 (mkF m 6 #[.val (.int ch)] [])
  refine Run.via (fun _ => XS.iloadN X101.at X101.ex rfl (X101.de vod_6) rfl) ?_
  show Run _ _ _ _ _ _ _ _ _ _ _ _ _ T101 (mkF m 7 #[.val (.int ch)] [(.int ch)])
  refine Run.callS X101 (y := (⟨"java/lang/StringLatin1", "canEncode", "(C)Z"⟩ : MethodName)) (W := 0) (con_cc l hw r O) (wd hw 93 rfl) (wd hw 94 rfl) (wd hw 31 rfl) (wd hw 95 rfl) (by decide) pd__C_Z rfl (argsL := [(.int ch)]) (rest := []) rfl (Nat.le_of_ble_eq_true rfl) rfl vod_7 (by decide) (by decide) (Nat.le_of_ble_eq_true rfl) (Nat.le_of_ble_eq_true rfl) (nofun) (nofun) ?_
  intro v102 T102 h102 L102 q102 X102 XF102 XK102 K102
  obtain ⟨rfl, rfl⟩ := q102
  show Run _ _ _ _ _ _ _ _ _ _ _ _ _ T102 (mkF m 10 #[.val (.int ch)] [(.int (1 : Int32))])
  refine Run.via (fun _ => XS.ifNo X102.at X102.ex rfl (X102.de vod_10) rfl ((if0 _ _).trans (feq (by decide : ¬ ((1 : Int32) = (0 : Int32)))).1)) ?_
  show Run _ _ _ _ _ _ _ _ _ _ _ _ _ T102 (mkF m 13 #[.val (.int ch)] [])
  refine Run.new X102 (wd hw 96 rfl) (wd hw 10 rfl) (wd hw 9 rfl) vod_13 (Nat.le_of_ble_eq_true rfl) (Nat.le_of_ble_eq_true rfl) ?_
  intro T103 h103 x103 g103 X103 K103 z103 E103 D103
  show Run _ _ _ _ _ _ _ _ _ _ _ _ _ T103 (mkF m 16 #[.val (.int ch)] [(.ref x103)])
  have sx := K103.1
  have G : Raw Z h103 x103 := ⟨E103, D103 (Or.inr (wd hw 12 rfl)) (ty := (.array .byte)) (by decide), D103 (Or.inr (wd hw 13 rfl)) (ty := .byte) (by decide)⟩
  refine Run.via (fun _ => XS.dup X103.at X103.ex rfl (X103.de vod_16) rfl rfl) ?_
  show Run _ _ _ _ _ _ _ _ _ _ _ _ _ T103 (mkF m 17 #[.val (.int ch)] [(.ref x103), (.ref x103)])
  refine Run.via (fun _ => XS.iloadN X103.at X103.ex rfl (X103.de vod_17) rfl) ?_
  show Run _ _ _ _ _ _ _ _ _ _ _ _ _ T103 (mkF m 18 #[.val (.int ch)] [(.int ch), (.ref x103), (.ref x103)])
  refine Run.callS X103 (y := (⟨"java/lang/StringLatin1", "toBytes", "(C)[B"⟩ : MethodName)) (W := 2) (con_tb l hw X103.old) (wd hw 97 rfl) (wd hw 98 rfl) (wd hw 31 rfl) (wd hw 99 rfl) (by decide) pd__C__B rfl (argsL := [(.int ch)]) (rest := [(.ref x103), (.ref x103)]) rfl (Nat.le_of_ble_eq_true rfl) rfl vod_18 (by decide) (by decide) (Nat.le_of_ble_eq_true rfl) (Nat.le_of_ble_eq_true rfl) (nofun) (nofun) ?_
  intro v104 T104 h104 L104 q104 X104 XF104 XK104 K104
  obtain ⟨y, rfl, A1⟩ := q104
  show Run _ _ _ _ _ _ _ _ _ _ _ _ _ T104 (mkF m 21 #[.val (.int ch)] [(.ref y), (.ref x103), (.ref x103)])
  have sc := K104.1
  refine Run.via (fun _ => XS.iconst X104.at X104.ex rfl (X104.de vod_21)) ?_
  show Run _ _ _ _ _ _ _ _ _ _ _ _ _ T104 (mkF m 22 #[.val (.int ch)] [(.int (0 : Int32)), (.ref y), (.ref x103), (.ref x103)])
  refine Run.callN X104 (y := (⟨"java/lang/String", "<init>", "([BB)V"⟩ : MethodName)) (W := 1) (con_sb l hw (cs := [ch]) (lsS r ls0) A1 (G.keep K104 nin0) (by omega) X104.old) rfl (wd hw 100 rfl) (wd hw 101 rfl) (wd hw 9 rfl) (wd hw 102 rfl) (by decide) pd___BB_V rfl (argsL := [(.ref y), (.int (0 : Int32))]) (rest := [(.ref x103)]) rfl (Nat.le_of_ble_eq_true rfl) rfl vod_22 (by decide) (by decide) (Nat.le_of_ble_eq_true rfl) (Nat.le_of_ble_eq_true rfl) (fun y hy => by cases List.mem_singleton.mp hy; exact ⟨Or.inr (by omega), by omega⟩) (fun y hy => by cases List.mem_singleton.mp hy; simp) ?_
  intro v105 T105 h105 L105 q105 X105 XF105 XK105 K105
  obtain ⟨rfl, S⟩ := q105
  show Run _ _ _ _ _ _ _ _ _ _ _ _ _ T105 (mkF m 25 #[.val (.int ch)] [(.ref x103)])
  exact Run.retA X105 (t := (.object "java/lang/String")) rfl rfl rfl vod_25 (Nat.le_of_ble_eq_true rfl) (Nat.le_of_ble_eq_true rfl) (⟨x103, rfl, S⟩) (nofun)
-- part con_pr1
theorem pr1d_0 : decode method_2_code 0 = .ok (.ldc 7, 2) := by decide +kernel
theorem pr1d_2 : decode method_2_code 2 = .ok (.iload_n 0, 1) := by decide +kernel
theorem pr1d_3 : decode method_2_code 3 = .ok (.invokevirtual 9, 3) := by decide +kernel
theorem pr1d_6 : decode method_2_code 6 = .ok (.ireturn, 1) := by decide +kernel
set_option maxRecDepth 65536 in
set_option maxHeartbeats 40000000 in
theorem con_pr1 (l : Launch) {Z : State} {a0 : Array Value} {EL : List (String × Nat)} {h0 : Heap} (hw : ∀ d ∈ tables_1, d.before a0 Z = true) (hS : Sets Z) (hN : NW = false) (hm : ("com/example/veneer/veneer/ServiceIriIsServiceIriPinLaw", 7) ∈ EL) {i : Nat} (hi : i < 18) (O : Ext Z.heap h0) : Con l Z a0 EL false none true (⟨"com/example/veneer/veneer/ServiceIriIsServiceIriPinLaw", "pre", "(I)C"⟩ : MethodName) method_2_code 1 (some .char) ({ frames := 4, cells := 2, slots := 76, locals := 53 } : Room) [] [] #[(.int (Int32.ofNat i))] h0 (fun v _ => v = some (.int (KT.getD i 0))) := by
  refine Con.enter (plainFor_of_name (by first | (simp [plainName, overriddenIn]; done) | decide +kernel)) O ?_
  intro p e s m below meth c T0 X0
  rw [show entryFrame m #[(.int (Int32.ofNat i))] 1 = (mkF m 0 #[.val (.int (Int32.ofNat i))] []) from by first | (simp [entryFrame, mkF, argsToLocals, Value.category]; done) | rfl]
  refine Run.ldcT hw hN X0 (cs := KT) (n := 72) (wd hw 8 rfl) hm rfl rfl (by decide) (by decide) (by decide) pr1d_0 (by decide) (by decide) (Nat.le_of_ble_eq_true rfl) (Nat.le_of_ble_eq_true rfl) ?_
  intro a101 T101 h101 L101 X101 K101 S101
  show Run _ _ _ _ _ _ _ _ _ _ _ _ _ T101 (mkF m 2 #[.val (.int (Int32.ofNat i))] [(.ref a101)])
  refine Run.via (fun _ => XS.iloadN X101.at X101.ex rfl (X101.de pr1d_2) rfl) ?_
  show Run _ _ _ _ _ _ _ _ _ _ _ _ _ T101 (mkF m 3 #[.val (.int (Int32.ofNat i))] [(.int (Int32.ofNat i)), (.ref a101)])
  refine Run.sch hw hS X101 (W := 0) S101 (fun c q => (latKT c q).2) rfl (by show i < 18; omega) (wd hw 16 rfl) (wd hw 17 rfl) (wd hw 18 rfl) (wd hw 19 rfl) (wd hw 10 rfl) pr1d_3 rfl (Nat.le_of_ble_eq_true rfl) (by decide) (by decide) (Nat.le_of_ble_eq_true rfl) (Nat.le_of_ble_eq_true rfl) ?_
  intro T102 X102
  show Run _ _ _ _ _ _ _ _ _ _ _ _ _ T102 (mkF m 6 #[.val (.int (Int32.ofNat i))] [(.int (KT.getD i 0))])
  exact Run.retN X102 (t := .char) rfl (by simp) pr1d_6 (Nat.le_of_ble_eq_true rfl) (Nat.le_of_ble_eq_true rfl) (by rw [nar_lat (latKT _ (mem_getD (by show i < 18; omega)))]) (fun _ => ⟨_, rfl, S101⟩)
-- part con_prK
theorem pr0d_0 : decode method_2_code 0 = .ok (.ldc 7, 2) := by decide +kernel
theorem pr0d_2 : decode method_2_code 2 = .ok (.iload_n 0, 1) := by decide +kernel
theorem pr0d_3 : decode method_2_code 3 = .ok (.invokevirtual 9, 3) := by decide +kernel
theorem pr0d_6 : decode method_2_code 6 = .ok (.ireturn, 1) := by decide +kernel
set_option maxRecDepth 65536 in
set_option maxHeartbeats 40000000 in
theorem con_prK (l : Launch) {Z : State} {a0 : Array Value} {EL : List (String × Nat)} {h0 : Heap} (hw : ∀ d ∈ tables_1, d.before a0 Z = true) (hS : Sets Z) {ka : Addr} (S : Str Z h0 ka KT) {i : Nat} (hi : i < 18) (O : Ext Z.heap h0) : Con l Z a0 EL false (some ka) false (⟨"com/example/veneer/veneer/ServiceIriIsServiceIriPinLaw", "pre", "(I)C"⟩ : MethodName) method_2_code 1 (some .char) ({ frames := 4, cells := 0, slots := 0, locals := 53 } : Room) [] [] #[(.int (Int32.ofNat i))] h0 (fun v _ => v = some (.int (KT.getD i 0))) := by
  refine Con.enter (plainFor_of_name (by first | (simp [plainName, overriddenIn]; done) | decide +kernel)) O ?_
  intro p e s m below meth c T0 X0
  rw [show entryFrame m #[(.int (Int32.ofNat i))] 1 = (mkF m 0 #[.val (.int (Int32.ofNat i))] []) from by first | (simp [entryFrame, mkF, argsToLocals, Value.category]; done) | rfl]
  refine Run.ldcK (kb := none) X0 (wd hw 8 rfl) rfl rfl pr0d_0 ?_
  show Run _ _ _ _ _ _ _ _ _ _ _ _ _ T0 (mkF m 2 #[.val (.int (Int32.ofNat i))] [(.ref ka)])
  refine Run.via (fun _ => XS.iloadN X0.at X0.ex rfl (X0.de pr0d_2) rfl) ?_
  show Run _ _ _ _ _ _ _ _ _ _ _ _ _ T0 (mkF m 3 #[.val (.int (Int32.ofNat i))] [(.int (Int32.ofNat i)), (.ref ka)])
  refine Run.sch hw hS X0 (W := 0) S (fun c q => (latKT c q).2) rfl (by show i < 18; omega) (wd hw 16 rfl) (wd hw 17 rfl) (wd hw 18 rfl) (wd hw 19 rfl) (wd hw 10 rfl) pr0d_3 rfl (Nat.le_of_ble_eq_true rfl) (by decide) (by decide) (Nat.le_of_ble_eq_true rfl) (Nat.le_of_ble_eq_true rfl) ?_
  intro T101 X101
  show Run _ _ _ _ _ _ _ _ _ _ _ _ _ T101 (mkF m 6 #[.val (.int (Int32.ofNat i))] [(.int (KT.getD i 0))])
  exact Run.retN X101 (t := .char) rfl (by simp) pr0d_6 (Nat.le_of_ble_eq_true rfl) (Nat.le_of_ble_eq_true rfl) (by rw [nar_lat (latKT _ (mem_getD (by show i < 18; omega)))])
-- part con_a1
theorem a1d_0 : decode method_3_code 0 = .ok (.iload_n 0, 1) := by decide +kernel
theorem a1d_1 : decode method_3_code 1 = .ok (.iload_n 2, 1) := by decide +kernel
theorem a1d_2 : decode method_3_code 2 = .ok (.if_icmp .ne 5, 3) := by decide +kernel
theorem a1d_7 : decode method_3_code 7 = .ok (.iload_n 0, 1) := by decide +kernel
theorem a1d_8 : decode method_3_code 8 = .ok (.bipush 18, 2) := by decide +kernel
theorem a1d_10 : decode method_3_code 10 = .ok (.if_icmp .lt 19, 3) := by decide +kernel
theorem a1d_29 : decode method_3_code 29 = .ok (.iload_n 0, 1) := by decide +kernel
theorem a1d_30 : decode method_3_code 30 = .ok (.invokestatic 15, 3) := by decide +kernel
theorem a1d_33 : decode method_3_code 33 = .ok (.istore 5, 2) := by decide +kernel
theorem a1d_35 : decode method_3_code 35 = .ok (.iload 5, 2) := by decide +kernel
theorem a1d_37 : decode method_3_code 37 = .ok (.bipush 97, 2) := by decide +kernel
theorem a1d_39 : decode method_3_code 39 = .ok (.if_icmp .lt 25, 3) := by decide +kernel
theorem a1d_42 : decode method_3_code 42 = .ok (.iload 5, 2) := by decide +kernel
theorem a1d_44 : decode method_3_code 44 = .ok (.bipush 122, 2) := by decide +kernel
theorem a1d_46 : decode method_3_code 46 = .ok (.if_icmp .gt 18, 3) := by decide +kernel
theorem a1d_49 : decode method_3_code 49 = .ok (.iload_n 1, 1) := by decide +kernel
theorem a1d_50 : decode method_3_code 50 = .ok (.iload_n 0, 1) := by decide +kernel
theorem a1d_51 : decode method_3_code 51 = .ok (.iushr, 1) := by decide +kernel
theorem a1d_52 : decode method_3_code 52 = .ok (.iconst 1, 1) := by decide +kernel
theorem a1d_53 : decode method_3_code 53 = .ok (.iand, 1) := by decide +kernel
theorem a1d_54 : decode method_3_code 54 = .ok (.ifCond .eq 10, 3) := by decide +kernel
theorem a1d_57 : decode method_3_code 57 = .ok (.iload 5, 2) := by decide +kernel
theorem a1d_59 : decode method_3_code 59 = .ok (.bipush 32, 2) := by decide +kernel
theorem a1d_61 : decode method_3_code 61 = .ok (.isub, 1) := by decide +kernel
theorem a1d_62 : decode method_3_code 62 = .ok (.i2c, 1) := by decide +kernel
theorem a1d_63 : decode method_3_code 63 = .ok (.ireturn, 1) := by decide +kernel
theorem a1d_64 : decode method_3_code 64 = .ok (.iload 5, 2) := by decide +kernel
theorem a1d_66 : decode method_3_code 66 = .ok (.ireturn, 1) := by decide +kernel
set_option maxRecDepth 65536 in
set_option maxHeartbeats 40000000 in
theorem con_a1 (l : Launch) {Z : State} {a0 : Array Value} {EL : List (String × Nat)} {h0 : Heap} (hw : ∀ d ∈ tables_1, d.before a0 Z = true) (hS : Sets Z) (hN : NW = false) (hm : ("com/example/veneer/veneer/ServiceIriIsServiceIriPinLaw", 7) ∈ EL) {i : Nat} (hi : i < 18) {mk ps ch tl : Int32} (rc : ¬ ch < 0 ∧ ¬ (255 : Int32) < ch) (q : ¬ Int32.ofNat i = ps) (O : Ext Z.heap h0) : Con l Z a0 EL false none true (⟨"com/example/veneer/veneer/ServiceIriIsServiceIriPinLaw", "at", "(IIICI)C"⟩ : MethodName) method_3_code 6 (some .char) ({ frames := 5, cells := 2, slots := 76, locals := 66 } : Room) [] [] #[(.int (Int32.ofNat i)), (.int mk), (.int ps), (.int ch), (.int tl)] h0 (fun v _ => ∃ d, v = some (.int d) ∧ AtR i ps ch d) := by
  refine Con.enter (plainFor_of_name (by first | (simp [plainName, overriddenIn]; done) | decide +kernel)) O ?_
  intro p e s m below meth c T0 X0
  rw [show entryFrame m #[(.int (Int32.ofNat i)), (.int mk), (.int ps), (.int ch), (.int tl)] 6 = (mkF m 0 #[.val (.int (Int32.ofNat i)), .val (.int mk), .val (.int ps), .val (.int ch), .val (.int tl), .unset] []) from by first | (simp [entryFrame, mkF, argsToLocals, Value.category]; done) | rfl]
  have rp := latKT _ (mem_getD (show i < KT.length from hi))
  refine Run.via (fun _ => XS.iloadN X0.at X0.ex rfl (X0.de a1d_0) rfl) ?_
  show Run _ _ _ _ _ _ _ _ _ _ _ _ _ T0 (mkF m 1 #[.val (.int (Int32.ofNat i)), .val (.int mk), .val (.int ps), .val (.int ch), .val (.int tl), .unset] [(.int (Int32.ofNat i))])
  refine Run.via (fun _ => XS.iloadN X0.at X0.ex rfl (X0.de a1d_1) rfl) ?_
  show Run _ _ _ _ _ _ _ _ _ _ _ _ _ T0 (mkF m 2 #[.val (.int (Int32.ofNat i)), .val (.int mk), .val (.int ps), .val (.int ch), .val (.int tl), .unset] [(.int ps), (.int (Int32.ofNat i))])
  refine Run.via (fun _ => XS.icmpYes X0.at X0.ex rfl (pc0 := 2) (pc' := 7) rfl (X0.de a1d_2) rfl (feq q).2 (by decide) (by decide)) ?_
  show Run _ _ _ _ _ _ _ _ _ _ _ _ _ T0 (mkF m 7 #[.val (.int (Int32.ofNat i)), .val (.int mk), .val (.int ps), .val (.int ch), .val (.int tl), .unset] [])
  refine Run.via (fun _ => XS.iloadN X0.at X0.ex rfl (X0.de a1d_7) rfl) ?_
  show Run _ _ _ _ _ _ _ _ _ _ _ _ _ T0 (mkF m 8 #[.val (.int (Int32.ofNat i)), .val (.int mk), .val (.int ps), .val (.int ch), .val (.int tl), .unset] [(.int (Int32.ofNat i))])
  refine Run.via (fun _ => XS.bipush X0.at X0.ex rfl (X0.de a1d_8)) ?_
  show Run _ _ _ _ _ _ _ _ _ _ _ _ _ T0 (mkF m 10 #[.val (.int (Int32.ofNat i)), .val (.int mk), .val (.int ps), .val (.int ch), .val (.int tl), .unset] [(.int (18 : Int32)), (.int (Int32.ofNat i))])
  refine Run.via (fun _ => XS.icmpYes X0.at X0.ex rfl (pc0 := 10) (pc' := 29) rfl (X0.de a1d_10) rfl (tlt ((i32lt (b := 18) (by omega) (by omega)).mpr hi)).1 (by decide) (by decide)) ?_
  show Run _ _ _ _ _ _ _ _ _ _ _ _ _ T0 (mkF m 29 #[.val (.int (Int32.ofNat i)), .val (.int mk), .val (.int ps), .val (.int ch), .val (.int tl), .unset] [])
  refine Run.via (fun _ => XS.iloadN X0.at X0.ex rfl (X0.de a1d_29) rfl) ?_
  show Run _ _ _ _ _ _ _ _ _ _ _ _ _ T0 (mkF m 30 #[.val (.int (Int32.ofNat i)), .val (.int mk), .val (.int ps), .val (.int ch), .val (.int tl), .unset] [(.int (Int32.ofNat i))])
  refine Run.callS X0 (y := (⟨"com/example/veneer/veneer/ServiceIriIsServiceIriPinLaw", "pre", "(I)C"⟩ : MethodName)) (W := 0) (con_pr1 l hw hS hN hm hi O) (wd hw 5 rfl) (wd hw 6 rfl) (wd hw 3 rfl) (wd hw 7 rfl) (by decide) pd__I_C rfl (argsL := [(.int (Int32.ofNat i))]) (rest := []) rfl (Nat.le_of_ble_eq_true rfl) rfl a1d_30 (by decide) (by decide) (Nat.le_of_ble_eq_true rfl) (Nat.le_of_ble_eq_true rfl) (nofun) (nofun) ?_
  intro v101 T101 h101 L101 q101 X101 XF101 XK101 K101
  obtain rfl := q101
  show Run _ _ _ _ _ _ _ _ _ _ _ _ _ T101 (mkF m 33 #[.val (.int (Int32.ofNat i)), .val (.int mk), .val (.int ps), .val (.int ch), .val (.int tl), .unset] [(.int (KT.getD i 0))])
  obtain ⟨ka, SK, XK⟩ := XK101 rfl
  refine Run.via (fun _ => XS.istore XK.at XK.ex rfl (XK.de a1d_33) rfl (l' := #[.val (.int (Int32.ofNat i)), .val (.int mk), .val (.int ps), .val (.int ch), .val (.int tl), .val (.int (KT.getD i 0))]) rfl) ?_
  show Run _ _ _ _ _ _ _ _ _ _ _ _ _ T101 (mkF m 35 #[.val (.int (Int32.ofNat i)), .val (.int mk), .val (.int ps), .val (.int ch), .val (.int tl), .val (.int (KT.getD i 0))] [])
  refine Run.via (fun _ => XS.iload XK.at XK.ex rfl (XK.de a1d_35) rfl) ?_
  show Run _ _ _ _ _ _ _ _ _ _ _ _ _ T101 (mkF m 37 #[.val (.int (Int32.ofNat i)), .val (.int mk), .val (.int ps), .val (.int ch), .val (.int tl), .val (.int (KT.getD i 0))] [(.int (KT.getD i 0))])
  refine Run.via (fun _ => XS.bipush XK.at XK.ex rfl (XK.de a1d_37)) ?_
  show Run _ _ _ _ _ _ _ _ _ _ _ _ _ T101 (mkF m 39 #[.val (.int (Int32.ofNat i)), .val (.int mk), .val (.int ps), .val (.int ch), .val (.int tl), .val (.int (KT.getD i 0))] [(.int (97 : Int32)), (.int (KT.getD i 0))])
  by_cases q1 : (KT.getD i 0) < (97 : Int32)
  ·
    refine Run.via (fun _ => XS.icmpYes XK.at XK.ex rfl (pc0 := 39) (pc' := 64) rfl (XK.de a1d_39) rfl (tlt q1).1 (by decide) (by decide)) ?_
    show Run _ _ _ _ _ _ _ _ _ _ _ _ _ T101 (mkF m 64 #[.val (.int (Int32.ofNat i)), .val (.int mk), .val (.int ps), .val (.int ch), .val (.int tl), .val (.int (KT.getD i 0))] [])
    refine Run.via (fun _ => XS.iload XK.at XK.ex rfl (XK.de a1d_64) rfl) ?_
    show Run _ _ _ _ _ _ _ _ _ _ _ _ _ T101 (mkF m 66 #[.val (.int (Int32.ofNat i)), .val (.int mk), .val (.int ps), .val (.int ch), .val (.int tl), .val (.int (KT.getD i 0))] [(.int (KT.getD i 0))])
    exact Run.retN XK (t := .char) rfl (by simp) a1d_66 (Nat.le_of_ble_eq_true rfl) (Nat.le_of_ble_eq_true rfl) ⟨_, by rw [nar_lat rp], fun z => absurd z q, fun _ _ => eic_self _, rp⟩ (fun _ => ⟨_, rfl, SK⟩)
  ·
    refine Run.via (fun _ => XS.icmpNo XK.at XK.ex rfl (XK.de a1d_39) rfl (flt q1).1) ?_
    show Run _ _ _ _ _ _ _ _ _ _ _ _ _ T101 (mkF m 42 #[.val (.int (Int32.ofNat i)), .val (.int mk), .val (.int ps), .val (.int ch), .val (.int tl), .val (.int (KT.getD i 0))] [])
    refine Run.via (fun _ => XS.iload XK.at XK.ex rfl (XK.de a1d_42) rfl) ?_
    show Run _ _ _ _ _ _ _ _ _ _ _ _ _ T101 (mkF m 44 #[.val (.int (Int32.ofNat i)), .val (.int mk), .val (.int ps), .val (.int ch), .val (.int tl), .val (.int (KT.getD i 0))] [(.int (KT.getD i 0))])
    refine Run.via (fun _ => XS.bipush XK.at XK.ex rfl (XK.de a1d_44)) ?_
    show Run _ _ _ _ _ _ _ _ _ _ _ _ _ T101 (mkF m 46 #[.val (.int (Int32.ofNat i)), .val (.int mk), .val (.int ps), .val (.int ch), .val (.int tl), .val (.int (KT.getD i 0))] [(.int (122 : Int32)), (.int (KT.getD i 0))])
    by_cases q2 : (122 : Int32) < (KT.getD i 0)
    ·
      refine Run.via (fun _ => XS.icmpYes XK.at XK.ex rfl (pc0 := 46) (pc' := 64) rfl (XK.de a1d_46) rfl (tlt q2).2.2.1 (by decide) (by decide)) ?_
      show Run _ _ _ _ _ _ _ _ _ _ _ _ _ T101 (mkF m 64 #[.val (.int (Int32.ofNat i)), .val (.int mk), .val (.int ps), .val (.int ch), .val (.int tl), .val (.int (KT.getD i 0))] [])
      refine Run.via (fun _ => XS.iload XK.at XK.ex rfl (XK.de a1d_64) rfl) ?_
      show Run _ _ _ _ _ _ _ _ _ _ _ _ _ T101 (mkF m 66 #[.val (.int (Int32.ofNat i)), .val (.int mk), .val (.int ps), .val (.int ch), .val (.int tl), .val (.int (KT.getD i 0))] [(.int (KT.getD i 0))])
      exact Run.retN XK (t := .char) rfl (by simp) a1d_66 (Nat.le_of_ble_eq_true rfl) (Nat.le_of_ble_eq_true rfl) ⟨_, by rw [nar_lat rp], fun z => absurd z q, fun _ _ => eic_self _, rp⟩ (fun _ => ⟨_, rfl, SK⟩)
    ·
      refine Run.via (fun _ => XS.icmpNo XK.at XK.ex rfl (XK.de a1d_46) rfl (flt q2).2.2.1) ?_
      show Run _ _ _ _ _ _ _ _ _ _ _ _ _ T101 (mkF m 49 #[.val (.int (Int32.ofNat i)), .val (.int mk), .val (.int ps), .val (.int ch), .val (.int tl), .val (.int (KT.getD i 0))] [])
      refine Run.via (fun _ => XS.iloadN XK.at XK.ex rfl (XK.de a1d_49) rfl) ?_
      show Run _ _ _ _ _ _ _ _ _ _ _ _ _ T101 (mkF m 50 #[.val (.int (Int32.ofNat i)), .val (.int mk), .val (.int ps), .val (.int ch), .val (.int tl), .val (.int (KT.getD i 0))] [(.int mk)])
      refine Run.via (fun _ => XS.iloadN XK.at XK.ex rfl (XK.de a1d_50) rfl) ?_
      show Run _ _ _ _ _ _ _ _ _ _ _ _ _ T101 (mkF m 51 #[.val (.int (Int32.ofNat i)), .val (.int mk), .val (.int ps), .val (.int ch), .val (.int tl), .val (.int (KT.getD i 0))] [(.int (Int32.ofNat i)), (.int mk)])
      refine Run.via (fun _ => XS.iushr XK.at XK.ex rfl (XK.de a1d_51) rfl) ?_
      show Run _ _ _ _ _ _ _ _ _ _ _ _ _ T101 (mkF m 52 #[.val (.int (Int32.ofNat i)), .val (.int mk), .val (.int ps), .val (.int ch), .val (.int tl), .val (.int (KT.getD i 0))] [(.int ((mk.toUInt32 >>> ((Int32.ofNat i) &&& 31).toUInt32).toInt32))])
      refine Run.via (fun _ => XS.iconst XK.at XK.ex rfl (XK.de a1d_52)) ?_
      show Run _ _ _ _ _ _ _ _ _ _ _ _ _ T101 (mkF m 53 #[.val (.int (Int32.ofNat i)), .val (.int mk), .val (.int ps), .val (.int ch), .val (.int tl), .val (.int (KT.getD i 0))] [(.int (1 : Int32)), (.int ((mk.toUInt32 >>> ((Int32.ofNat i) &&& 31).toUInt32).toInt32))])
      refine Run.via (fun _ => XS.iand XK.at XK.ex rfl (XK.de a1d_53) rfl) ?_
      show Run _ _ _ _ _ _ _ _ _ _ _ _ _ T101 (mkF m 54 #[.val (.int (Int32.ofNat i)), .val (.int mk), .val (.int ps), .val (.int ch), .val (.int tl), .val (.int (KT.getD i 0))] [(.int (((mk.toUInt32 >>> ((Int32.ofNat i) &&& 31).toUInt32).toInt32) &&& (1 : Int32)))])
      by_cases q3 : (((mk.toUInt32 >>> ((Int32.ofNat i) &&& 31).toUInt32).toInt32) &&& (1 : Int32)) = (0 : Int32)
      ·
        refine Run.via (fun _ => XS.ifYes XK.at XK.ex rfl (pc0 := 54) (pc' := 64) rfl (XK.de a1d_54) rfl ((if0 _ _).trans (teq q3).1) (by decide) (by decide)) ?_
        show Run _ _ _ _ _ _ _ _ _ _ _ _ _ T101 (mkF m 64 #[.val (.int (Int32.ofNat i)), .val (.int mk), .val (.int ps), .val (.int ch), .val (.int tl), .val (.int (KT.getD i 0))] [])
        refine Run.via (fun _ => XS.iload XK.at XK.ex rfl (XK.de a1d_64) rfl) ?_
        show Run _ _ _ _ _ _ _ _ _ _ _ _ _ T101 (mkF m 66 #[.val (.int (Int32.ofNat i)), .val (.int mk), .val (.int ps), .val (.int ch), .val (.int tl), .val (.int (KT.getD i 0))] [(.int (KT.getD i 0))])
        exact Run.retN XK (t := .char) rfl (by simp) a1d_66 (Nat.le_of_ble_eq_true rfl) (Nat.le_of_ble_eq_true rfl) ⟨_, by rw [nar_lat rp], fun z => absurd z q, fun _ _ => eic_self _, rp⟩ (fun _ => ⟨_, rfl, SK⟩)
      ·
        refine Run.via (fun _ => XS.ifNo XK.at XK.ex rfl (XK.de a1d_54) rfl ((if0 _ _).trans (feq q3).1)) ?_
        show Run _ _ _ _ _ _ _ _ _ _ _ _ _ T101 (mkF m 57 #[.val (.int (Int32.ofNat i)), .val (.int mk), .val (.int ps), .val (.int ch), .val (.int tl), .val (.int (KT.getD i 0))] [])
        refine Run.via (fun _ => XS.iload XK.at XK.ex rfl (XK.de a1d_57) rfl) ?_
        show Run _ _ _ _ _ _ _ _ _ _ _ _ _ T101 (mkF m 59 #[.val (.int (Int32.ofNat i)), .val (.int mk), .val (.int ps), .val (.int ch), .val (.int tl), .val (.int (KT.getD i 0))] [(.int (KT.getD i 0))])
        refine Run.via (fun _ => XS.bipush XK.at XK.ex rfl (XK.de a1d_59)) ?_
        show Run _ _ _ _ _ _ _ _ _ _ _ _ _ T101 (mkF m 61 #[.val (.int (Int32.ofNat i)), .val (.int mk), .val (.int ps), .val (.int ch), .val (.int tl), .val (.int (KT.getD i 0))] [(.int (32 : Int32)), (.int (KT.getD i 0))])
        refine Run.via (fun _ => XS.isub XK.at XK.ex rfl (XK.de a1d_61) rfl) ?_
        show Run _ _ _ _ _ _ _ _ _ _ _ _ _ T101 (mkF m 62 #[.val (.int (Int32.ofNat i)), .val (.int mk), .val (.int ps), .val (.int ch), .val (.int tl), .val (.int (KT.getD i 0))] [(.int ((KT.getD i 0) - (32 : Int32)))])
        refine Run.via (fun _ => XS.i2c XK.at XK.ex rfl (XK.de a1d_62) rfl) ?_
        show Run _ _ _ _ _ _ _ _ _ _ _ _ _ T101 (mkF m 63 #[.val (.int (Int32.ofNat i)), .val (.int mk), .val (.int ps), .val (.int ch), .val (.int tl), .val (.int (KT.getD i 0))] [(.int (((KT.getD i 0) - (32 : Int32)).toUInt32.toUInt16.toUInt32.toInt32))])
        exact Run.retN XK (t := .char) rfl (by simp) a1d_63 (Nat.le_of_ble_eq_true rfl) (Nat.le_of_ble_eq_true rfl) ⟨_, by rw [nar_i2c], fun z => absurd z q, fun _ _ => eic_cap rp ⟨q1, q2⟩, cap_lat rp ⟨q1, q2⟩⟩ (fun _ => ⟨_, rfl, SK⟩)
-- part con_aK
theorem aKd_0 : decode method_3_code 0 = .ok (.iload_n 0, 1) := by decide +kernel
theorem aKd_1 : decode method_3_code 1 = .ok (.iload_n 2, 1) := by decide +kernel
theorem aKd_2 : decode method_3_code 2 = .ok (.if_icmp .ne 5, 3) := by decide +kernel
theorem aKd_5 : decode method_3_code 5 = .ok (.iload_n 3, 1) := by decide +kernel
theorem aKd_6 : decode method_3_code 6 = .ok (.ireturn, 1) := by decide +kernel
theorem aKd_7 : decode method_3_code 7 = .ok (.iload_n 0, 1) := by decide +kernel
theorem aKd_8 : decode method_3_code 8 = .ok (.bipush 18, 2) := by decide +kernel
theorem aKd_10 : decode method_3_code 10 = .ok (.if_icmp .lt 19, 3) := by decide +kernel
theorem aKd_29 : decode method_3_code 29 = .ok (.iload_n 0, 1) := by decide +kernel
theorem aKd_30 : decode method_3_code 30 = .ok (.invokestatic 15, 3) := by decide +kernel
theorem aKd_33 : decode method_3_code 33 = .ok (.istore 5, 2) := by decide +kernel
theorem aKd_35 : decode method_3_code 35 = .ok (.iload 5, 2) := by decide +kernel
theorem aKd_37 : decode method_3_code 37 = .ok (.bipush 97, 2) := by decide +kernel
theorem aKd_39 : decode method_3_code 39 = .ok (.if_icmp .lt 25, 3) := by decide +kernel
theorem aKd_42 : decode method_3_code 42 = .ok (.iload 5, 2) := by decide +kernel
theorem aKd_44 : decode method_3_code 44 = .ok (.bipush 122, 2) := by decide +kernel
theorem aKd_46 : decode method_3_code 46 = .ok (.if_icmp .gt 18, 3) := by decide +kernel
theorem aKd_49 : decode method_3_code 49 = .ok (.iload_n 1, 1) := by decide +kernel
theorem aKd_50 : decode method_3_code 50 = .ok (.iload_n 0, 1) := by decide +kernel
theorem aKd_51 : decode method_3_code 51 = .ok (.iushr, 1) := by decide +kernel
theorem aKd_52 : decode method_3_code 52 = .ok (.iconst 1, 1) := by decide +kernel
theorem aKd_53 : decode method_3_code 53 = .ok (.iand, 1) := by decide +kernel
theorem aKd_54 : decode method_3_code 54 = .ok (.ifCond .eq 10, 3) := by decide +kernel
theorem aKd_57 : decode method_3_code 57 = .ok (.iload 5, 2) := by decide +kernel
theorem aKd_59 : decode method_3_code 59 = .ok (.bipush 32, 2) := by decide +kernel
theorem aKd_61 : decode method_3_code 61 = .ok (.isub, 1) := by decide +kernel
theorem aKd_62 : decode method_3_code 62 = .ok (.i2c, 1) := by decide +kernel
theorem aKd_63 : decode method_3_code 63 = .ok (.ireturn, 1) := by decide +kernel
theorem aKd_64 : decode method_3_code 64 = .ok (.iload 5, 2) := by decide +kernel
theorem aKd_66 : decode method_3_code 66 = .ok (.ireturn, 1) := by decide +kernel
set_option maxRecDepth 65536 in
set_option maxHeartbeats 40000000 in
theorem con_aK (l : Launch) {Z : State} {a0 : Array Value} {EL : List (String × Nat)} {h0 : Heap} (hw : ∀ d ∈ tables_1, d.before a0 Z = true) (hS : Sets Z) {ka : Addr} (S : Str Z h0 ka KT) {i : Nat} (hi : i < 18) {mk ps ch tl : Int32} (rc : ¬ ch < 0 ∧ ¬ (255 : Int32) < ch) (O : Ext Z.heap h0) : Con l Z a0 EL false (some ka) false (⟨"com/example/veneer/veneer/ServiceIriIsServiceIriPinLaw", "at", "(IIICI)C"⟩ : MethodName) method_3_code 6 (some .char) ({ frames := 5, cells := 0, slots := 0, locals := 66 } : Room) [] [] #[(.int (Int32.ofNat i)), (.int mk), (.int ps), (.int ch), (.int tl)] h0 (fun v _ => ∃ d, v = some (.int d) ∧ AtR i ps ch d) := by
  refine Con.enter (plainFor_of_name (by first | (simp [plainName, overriddenIn]; done) | decide +kernel)) O ?_
  intro p e s m below meth c T0 X0
  rw [show entryFrame m #[(.int (Int32.ofNat i)), (.int mk), (.int ps), (.int ch), (.int tl)] 6 = (mkF m 0 #[.val (.int (Int32.ofNat i)), .val (.int mk), .val (.int ps), .val (.int ch), .val (.int tl), .unset] []) from by first | (simp [entryFrame, mkF, argsToLocals, Value.category]; done) | rfl]
  have rp := latKT _ (mem_getD (show i < KT.length from hi))
  refine Run.via (fun _ => XS.iloadN X0.at X0.ex rfl (X0.de aKd_0) rfl) ?_
  show Run _ _ _ _ _ _ _ _ _ _ _ _ _ T0 (mkF m 1 #[.val (.int (Int32.ofNat i)), .val (.int mk), .val (.int ps), .val (.int ch), .val (.int tl), .unset] [(.int (Int32.ofNat i))])
  refine Run.via (fun _ => XS.iloadN X0.at X0.ex rfl (X0.de aKd_1) rfl) ?_
  show Run _ _ _ _ _ _ _ _ _ _ _ _ _ T0 (mkF m 2 #[.val (.int (Int32.ofNat i)), .val (.int mk), .val (.int ps), .val (.int ch), .val (.int tl), .unset] [(.int ps), (.int (Int32.ofNat i))])
  by_cases q : (Int32.ofNat i) = ps
  ·
    refine Run.via (fun _ => XS.icmpNo X0.at X0.ex rfl (X0.de aKd_2) rfl (teq q).2) ?_
    show Run _ _ _ _ _ _ _ _ _ _ _ _ _ T0 (mkF m 5 #[.val (.int (Int32.ofNat i)), .val (.int mk), .val (.int ps), .val (.int ch), .val (.int tl), .unset] [])
    refine Run.via (fun _ => XS.iloadN X0.at X0.ex rfl (X0.de aKd_5) rfl) ?_
    show Run _ _ _ _ _ _ _ _ _ _ _ _ _ T0 (mkF m 6 #[.val (.int (Int32.ofNat i)), .val (.int mk), .val (.int ps), .val (.int ch), .val (.int tl), .unset] [(.int ch)])
    exact Run.retN X0 (t := .char) rfl (by simp) aKd_6 (Nat.le_of_ble_eq_true rfl) (Nat.le_of_ble_eq_true rfl) (⟨_, by rw [nar_lat rc], fun _ => rfl, fun z => absurd q z, rc⟩)
  ·
    refine Run.via (fun _ => XS.icmpYes X0.at X0.ex rfl (pc0 := 2) (pc' := 7) rfl (X0.de aKd_2) rfl (feq q).2 (by decide) (by decide)) ?_
    show Run _ _ _ _ _ _ _ _ _ _ _ _ _ T0 (mkF m 7 #[.val (.int (Int32.ofNat i)), .val (.int mk), .val (.int ps), .val (.int ch), .val (.int tl), .unset] [])
    refine Run.via (fun _ => XS.iloadN X0.at X0.ex rfl (X0.de aKd_7) rfl) ?_
    show Run _ _ _ _ _ _ _ _ _ _ _ _ _ T0 (mkF m 8 #[.val (.int (Int32.ofNat i)), .val (.int mk), .val (.int ps), .val (.int ch), .val (.int tl), .unset] [(.int (Int32.ofNat i))])
    refine Run.via (fun _ => XS.bipush X0.at X0.ex rfl (X0.de aKd_8)) ?_
    show Run _ _ _ _ _ _ _ _ _ _ _ _ _ T0 (mkF m 10 #[.val (.int (Int32.ofNat i)), .val (.int mk), .val (.int ps), .val (.int ch), .val (.int tl), .unset] [(.int (18 : Int32)), (.int (Int32.ofNat i))])
    refine Run.via (fun _ => XS.icmpYes X0.at X0.ex rfl (pc0 := 10) (pc' := 29) rfl (X0.de aKd_10) rfl (tlt ((i32lt (b := 18) (by omega) (by omega)).mpr hi)).1 (by decide) (by decide)) ?_
    show Run _ _ _ _ _ _ _ _ _ _ _ _ _ T0 (mkF m 29 #[.val (.int (Int32.ofNat i)), .val (.int mk), .val (.int ps), .val (.int ch), .val (.int tl), .unset] [])
    refine Run.via (fun _ => XS.iloadN X0.at X0.ex rfl (X0.de aKd_29) rfl) ?_
    show Run _ _ _ _ _ _ _ _ _ _ _ _ _ T0 (mkF m 30 #[.val (.int (Int32.ofNat i)), .val (.int mk), .val (.int ps), .val (.int ch), .val (.int tl), .unset] [(.int (Int32.ofNat i))])
    refine Run.callS X0 (y := (⟨"com/example/veneer/veneer/ServiceIriIsServiceIriPinLaw", "pre", "(I)C"⟩ : MethodName)) (W := 0) (con_prK l hw hS S hi O) (wd hw 5 rfl) (wd hw 6 rfl) (wd hw 3 rfl) (wd hw 7 rfl) (by decide) pd__I_C rfl (argsL := [(.int (Int32.ofNat i))]) (rest := []) rfl (Nat.le_of_ble_eq_true rfl) rfl aKd_30 (by decide) (by decide) (Nat.le_of_ble_eq_true rfl) (Nat.le_of_ble_eq_true rfl) (nofun) (nofun) ?_
    intro v101 T101 h101 L101 q101 X101 XF101 XK101 K101
    obtain rfl := q101
    show Run _ _ _ _ _ _ _ _ _ _ _ _ _ T101 (mkF m 33 #[.val (.int (Int32.ofNat i)), .val (.int mk), .val (.int ps), .val (.int ch), .val (.int tl), .unset] [(.int (KT.getD i 0))])
    refine Run.via (fun _ => XS.istore X101.at X101.ex rfl (X101.de aKd_33) rfl (l' := #[.val (.int (Int32.ofNat i)), .val (.int mk), .val (.int ps), .val (.int ch), .val (.int tl), .val (.int (KT.getD i 0))]) rfl) ?_
    show Run _ _ _ _ _ _ _ _ _ _ _ _ _ T101 (mkF m 35 #[.val (.int (Int32.ofNat i)), .val (.int mk), .val (.int ps), .val (.int ch), .val (.int tl), .val (.int (KT.getD i 0))] [])
    refine Run.via (fun _ => XS.iload X101.at X101.ex rfl (X101.de aKd_35) rfl) ?_
    show Run _ _ _ _ _ _ _ _ _ _ _ _ _ T101 (mkF m 37 #[.val (.int (Int32.ofNat i)), .val (.int mk), .val (.int ps), .val (.int ch), .val (.int tl), .val (.int (KT.getD i 0))] [(.int (KT.getD i 0))])
    refine Run.via (fun _ => XS.bipush X101.at X101.ex rfl (X101.de aKd_37)) ?_
    show Run _ _ _ _ _ _ _ _ _ _ _ _ _ T101 (mkF m 39 #[.val (.int (Int32.ofNat i)), .val (.int mk), .val (.int ps), .val (.int ch), .val (.int tl), .val (.int (KT.getD i 0))] [(.int (97 : Int32)), (.int (KT.getD i 0))])
    by_cases q1 : (KT.getD i 0) < (97 : Int32)
    ·
      refine Run.via (fun _ => XS.icmpYes X101.at X101.ex rfl (pc0 := 39) (pc' := 64) rfl (X101.de aKd_39) rfl (tlt q1).1 (by decide) (by decide)) ?_
      show Run _ _ _ _ _ _ _ _ _ _ _ _ _ T101 (mkF m 64 #[.val (.int (Int32.ofNat i)), .val (.int mk), .val (.int ps), .val (.int ch), .val (.int tl), .val (.int (KT.getD i 0))] [])
      refine Run.via (fun _ => XS.iload X101.at X101.ex rfl (X101.de aKd_64) rfl) ?_
      show Run _ _ _ _ _ _ _ _ _ _ _ _ _ T101 (mkF m 66 #[.val (.int (Int32.ofNat i)), .val (.int mk), .val (.int ps), .val (.int ch), .val (.int tl), .val (.int (KT.getD i 0))] [(.int (KT.getD i 0))])
      exact Run.retN X101 (t := .char) rfl (by simp) aKd_66 (Nat.le_of_ble_eq_true rfl) (Nat.le_of_ble_eq_true rfl) ⟨_, by rw [nar_lat rp], fun z => absurd z q, fun _ _ => eic_self _, rp⟩
    ·
      refine Run.via (fun _ => XS.icmpNo X101.at X101.ex rfl (X101.de aKd_39) rfl (flt q1).1) ?_
      show Run _ _ _ _ _ _ _ _ _ _ _ _ _ T101 (mkF m 42 #[.val (.int (Int32.ofNat i)), .val (.int mk), .val (.int ps), .val (.int ch), .val (.int tl), .val (.int (KT.getD i 0))] [])
      refine Run.via (fun _ => XS.iload X101.at X101.ex rfl (X101.de aKd_42) rfl) ?_
      show Run _ _ _ _ _ _ _ _ _ _ _ _ _ T101 (mkF m 44 #[.val (.int (Int32.ofNat i)), .val (.int mk), .val (.int ps), .val (.int ch), .val (.int tl), .val (.int (KT.getD i 0))] [(.int (KT.getD i 0))])
      refine Run.via (fun _ => XS.bipush X101.at X101.ex rfl (X101.de aKd_44)) ?_
      show Run _ _ _ _ _ _ _ _ _ _ _ _ _ T101 (mkF m 46 #[.val (.int (Int32.ofNat i)), .val (.int mk), .val (.int ps), .val (.int ch), .val (.int tl), .val (.int (KT.getD i 0))] [(.int (122 : Int32)), (.int (KT.getD i 0))])
      by_cases q2 : (122 : Int32) < (KT.getD i 0)
      ·
        refine Run.via (fun _ => XS.icmpYes X101.at X101.ex rfl (pc0 := 46) (pc' := 64) rfl (X101.de aKd_46) rfl (tlt q2).2.2.1 (by decide) (by decide)) ?_
        show Run _ _ _ _ _ _ _ _ _ _ _ _ _ T101 (mkF m 64 #[.val (.int (Int32.ofNat i)), .val (.int mk), .val (.int ps), .val (.int ch), .val (.int tl), .val (.int (KT.getD i 0))] [])
        refine Run.via (fun _ => XS.iload X101.at X101.ex rfl (X101.de aKd_64) rfl) ?_
        show Run _ _ _ _ _ _ _ _ _ _ _ _ _ T101 (mkF m 66 #[.val (.int (Int32.ofNat i)), .val (.int mk), .val (.int ps), .val (.int ch), .val (.int tl), .val (.int (KT.getD i 0))] [(.int (KT.getD i 0))])
        exact Run.retN X101 (t := .char) rfl (by simp) aKd_66 (Nat.le_of_ble_eq_true rfl) (Nat.le_of_ble_eq_true rfl) ⟨_, by rw [nar_lat rp], fun z => absurd z q, fun _ _ => eic_self _, rp⟩
      ·
        refine Run.via (fun _ => XS.icmpNo X101.at X101.ex rfl (X101.de aKd_46) rfl (flt q2).2.2.1) ?_
        show Run _ _ _ _ _ _ _ _ _ _ _ _ _ T101 (mkF m 49 #[.val (.int (Int32.ofNat i)), .val (.int mk), .val (.int ps), .val (.int ch), .val (.int tl), .val (.int (KT.getD i 0))] [])
        refine Run.via (fun _ => XS.iloadN X101.at X101.ex rfl (X101.de aKd_49) rfl) ?_
        show Run _ _ _ _ _ _ _ _ _ _ _ _ _ T101 (mkF m 50 #[.val (.int (Int32.ofNat i)), .val (.int mk), .val (.int ps), .val (.int ch), .val (.int tl), .val (.int (KT.getD i 0))] [(.int mk)])
        refine Run.via (fun _ => XS.iloadN X101.at X101.ex rfl (X101.de aKd_50) rfl) ?_
        show Run _ _ _ _ _ _ _ _ _ _ _ _ _ T101 (mkF m 51 #[.val (.int (Int32.ofNat i)), .val (.int mk), .val (.int ps), .val (.int ch), .val (.int tl), .val (.int (KT.getD i 0))] [(.int (Int32.ofNat i)), (.int mk)])
        refine Run.via (fun _ => XS.iushr X101.at X101.ex rfl (X101.de aKd_51) rfl) ?_
        show Run _ _ _ _ _ _ _ _ _ _ _ _ _ T101 (mkF m 52 #[.val (.int (Int32.ofNat i)), .val (.int mk), .val (.int ps), .val (.int ch), .val (.int tl), .val (.int (KT.getD i 0))] [(.int ((mk.toUInt32 >>> ((Int32.ofNat i) &&& 31).toUInt32).toInt32))])
        refine Run.via (fun _ => XS.iconst X101.at X101.ex rfl (X101.de aKd_52)) ?_
        show Run _ _ _ _ _ _ _ _ _ _ _ _ _ T101 (mkF m 53 #[.val (.int (Int32.ofNat i)), .val (.int mk), .val (.int ps), .val (.int ch), .val (.int tl), .val (.int (KT.getD i 0))] [(.int (1 : Int32)), (.int ((mk.toUInt32 >>> ((Int32.ofNat i) &&& 31).toUInt32).toInt32))])
        refine Run.via (fun _ => XS.iand X101.at X101.ex rfl (X101.de aKd_53) rfl) ?_
        show Run _ _ _ _ _ _ _ _ _ _ _ _ _ T101 (mkF m 54 #[.val (.int (Int32.ofNat i)), .val (.int mk), .val (.int ps), .val (.int ch), .val (.int tl), .val (.int (KT.getD i 0))] [(.int (((mk.toUInt32 >>> ((Int32.ofNat i) &&& 31).toUInt32).toInt32) &&& (1 : Int32)))])
        by_cases q3 : (((mk.toUInt32 >>> ((Int32.ofNat i) &&& 31).toUInt32).toInt32) &&& (1 : Int32)) = (0 : Int32)
        ·
          refine Run.via (fun _ => XS.ifYes X101.at X101.ex rfl (pc0 := 54) (pc' := 64) rfl (X101.de aKd_54) rfl ((if0 _ _).trans (teq q3).1) (by decide) (by decide)) ?_
          show Run _ _ _ _ _ _ _ _ _ _ _ _ _ T101 (mkF m 64 #[.val (.int (Int32.ofNat i)), .val (.int mk), .val (.int ps), .val (.int ch), .val (.int tl), .val (.int (KT.getD i 0))] [])
          refine Run.via (fun _ => XS.iload X101.at X101.ex rfl (X101.de aKd_64) rfl) ?_
          show Run _ _ _ _ _ _ _ _ _ _ _ _ _ T101 (mkF m 66 #[.val (.int (Int32.ofNat i)), .val (.int mk), .val (.int ps), .val (.int ch), .val (.int tl), .val (.int (KT.getD i 0))] [(.int (KT.getD i 0))])
          exact Run.retN X101 (t := .char) rfl (by simp) aKd_66 (Nat.le_of_ble_eq_true rfl) (Nat.le_of_ble_eq_true rfl) ⟨_, by rw [nar_lat rp], fun z => absurd z q, fun _ _ => eic_self _, rp⟩
        ·
          refine Run.via (fun _ => XS.ifNo X101.at X101.ex rfl (X101.de aKd_54) rfl ((if0 _ _).trans (feq q3).1)) ?_
          show Run _ _ _ _ _ _ _ _ _ _ _ _ _ T101 (mkF m 57 #[.val (.int (Int32.ofNat i)), .val (.int mk), .val (.int ps), .val (.int ch), .val (.int tl), .val (.int (KT.getD i 0))] [])
          refine Run.via (fun _ => XS.iload X101.at X101.ex rfl (X101.de aKd_57) rfl) ?_
          show Run _ _ _ _ _ _ _ _ _ _ _ _ _ T101 (mkF m 59 #[.val (.int (Int32.ofNat i)), .val (.int mk), .val (.int ps), .val (.int ch), .val (.int tl), .val (.int (KT.getD i 0))] [(.int (KT.getD i 0))])
          refine Run.via (fun _ => XS.bipush X101.at X101.ex rfl (X101.de aKd_59)) ?_
          show Run _ _ _ _ _ _ _ _ _ _ _ _ _ T101 (mkF m 61 #[.val (.int (Int32.ofNat i)), .val (.int mk), .val (.int ps), .val (.int ch), .val (.int tl), .val (.int (KT.getD i 0))] [(.int (32 : Int32)), (.int (KT.getD i 0))])
          refine Run.via (fun _ => XS.isub X101.at X101.ex rfl (X101.de aKd_61) rfl) ?_
          show Run _ _ _ _ _ _ _ _ _ _ _ _ _ T101 (mkF m 62 #[.val (.int (Int32.ofNat i)), .val (.int mk), .val (.int ps), .val (.int ch), .val (.int tl), .val (.int (KT.getD i 0))] [(.int ((KT.getD i 0) - (32 : Int32)))])
          refine Run.via (fun _ => XS.i2c X101.at X101.ex rfl (X101.de aKd_62) rfl) ?_
          show Run _ _ _ _ _ _ _ _ _ _ _ _ _ T101 (mkF m 63 #[.val (.int (Int32.ofNat i)), .val (.int mk), .val (.int ps), .val (.int ch), .val (.int tl), .val (.int (KT.getD i 0))] [(.int (((KT.getD i 0) - (32 : Int32)).toUInt32.toUInt16.toUInt32.toInt32))])
          exact Run.retN X101 (t := .char) rfl (by simp) aKd_63 (Nat.le_of_ble_eq_true rfl) (Nat.le_of_ble_eq_true rfl) ⟨_, by rw [nar_i2c], fun z => absurd z q, fun _ _ => eic_cap rp ⟨q1, q2⟩, cap_lat rp ⟨q1, q2⟩⟩
-- part con_aP
theorem aPd_0 : decode method_3_code 0 = .ok (.iload_n 0, 1) := by decide +kernel
theorem aPd_1 : decode method_3_code 1 = .ok (.iload_n 2, 1) := by decide +kernel
theorem aPd_2 : decode method_3_code 2 = .ok (.if_icmp .ne 5, 3) := by decide +kernel
theorem aPd_5 : decode method_3_code 5 = .ok (.iload_n 3, 1) := by decide +kernel
theorem aPd_6 : decode method_3_code 6 = .ok (.ireturn, 1) := by decide +kernel
set_option maxRecDepth 65536 in
set_option maxHeartbeats 40000000 in
theorem con_aP (l : Launch) {Z : State} {a0 : Array Value} {EL : List (String × Nat)} {h0 : Heap} (hw : ∀ d ∈ tables_1, d.before a0 Z = true) {i : Nat} {mk ps ch tl : Int32} (rc : ¬ ch < 0 ∧ ¬ (255 : Int32) < ch) (q : Int32.ofNat i = ps) (O : Ext Z.heap h0) : Con l Z a0 EL false none false (⟨"com/example/veneer/veneer/ServiceIriIsServiceIriPinLaw", "at", "(IIICI)C"⟩ : MethodName) method_3_code 6 (some .char) ({ frames := 0, cells := 0, slots := 0, locals := 0 } : Room) [] [] #[(.int (Int32.ofNat i)), (.int mk), (.int ps), (.int ch), (.int tl)] h0 (fun v _ => ∃ d, v = some (.int d) ∧ AtR i ps ch d) := by
  refine Con.enter (plainFor_of_name (by first | (simp [plainName, overriddenIn]; done) | decide +kernel)) O ?_
  intro p e s m below meth c T0 X0
  rw [show entryFrame m #[(.int (Int32.ofNat i)), (.int mk), (.int ps), (.int ch), (.int tl)] 6 = (mkF m 0 #[.val (.int (Int32.ofNat i)), .val (.int mk), .val (.int ps), .val (.int ch), .val (.int tl), .unset] []) from by first | (simp [entryFrame, mkF, argsToLocals, Value.category]; done) | rfl]
  refine Run.via (fun _ => XS.iloadN X0.at X0.ex rfl (X0.de aPd_0) rfl) ?_
  show Run _ _ _ _ _ _ _ _ _ _ _ _ _ T0 (mkF m 1 #[.val (.int (Int32.ofNat i)), .val (.int mk), .val (.int ps), .val (.int ch), .val (.int tl), .unset] [(.int (Int32.ofNat i))])
  refine Run.via (fun _ => XS.iloadN X0.at X0.ex rfl (X0.de aPd_1) rfl) ?_
  show Run _ _ _ _ _ _ _ _ _ _ _ _ _ T0 (mkF m 2 #[.val (.int (Int32.ofNat i)), .val (.int mk), .val (.int ps), .val (.int ch), .val (.int tl), .unset] [(.int ps), (.int (Int32.ofNat i))])
  refine Run.via (fun _ => XS.icmpNo X0.at X0.ex rfl (X0.de aPd_2) rfl (teq q).2) ?_
  show Run _ _ _ _ _ _ _ _ _ _ _ _ _ T0 (mkF m 5 #[.val (.int (Int32.ofNat i)), .val (.int mk), .val (.int ps), .val (.int ch), .val (.int tl), .unset] [])
  refine Run.via (fun _ => XS.iloadN X0.at X0.ex rfl (X0.de aPd_5) rfl) ?_
  show Run _ _ _ _ _ _ _ _ _ _ _ _ _ T0 (mkF m 6 #[.val (.int (Int32.ofNat i)), .val (.int mk), .val (.int ps), .val (.int ch), .val (.int tl), .unset] [(.int ch)])
  exact Run.retN X0 (t := .char) rfl (by simp) aPd_6 (Nat.le_of_ble_eq_true rfl) (Nat.le_of_ble_eq_true rfl) (⟨_, by rw [nar_lat rc], fun _ => rfl, fun z => absurd q z, rc⟩)
-- part con_aT
theorem aTd_0 : decode method_3_code 0 = .ok (.iload_n 0, 1) := by decide +kernel
theorem aTd_1 : decode method_3_code 1 = .ok (.iload_n 2, 1) := by decide +kernel
theorem aTd_2 : decode method_3_code 2 = .ok (.if_icmp .ne 5, 3) := by decide +kernel
theorem aTd_5 : decode method_3_code 5 = .ok (.iload_n 3, 1) := by decide +kernel
theorem aTd_6 : decode method_3_code 6 = .ok (.ireturn, 1) := by decide +kernel
theorem aTd_7 : decode method_3_code 7 = .ok (.iload_n 0, 1) := by decide +kernel
theorem aTd_8 : decode method_3_code 8 = .ok (.bipush 18, 2) := by decide +kernel
theorem aTd_10 : decode method_3_code 10 = .ok (.if_icmp .lt 19, 3) := by decide +kernel
theorem aTd_13 : decode method_3_code 13 = .ok (.iload 4, 2) := by decide +kernel
theorem aTd_15 : decode method_3_code 15 = .ok (.iload_n 0, 1) := by decide +kernel
theorem aTd_16 : decode method_3_code 16 = .ok (.bipush 18, 2) := by decide +kernel
theorem aTd_18 : decode method_3_code 18 = .ok (.isub, 1) := by decide +kernel
theorem aTd_19 : decode method_3_code 19 = .ok (.bipush 8, 2) := by decide +kernel
theorem aTd_21 : decode method_3_code 21 = .ok (.imul, 1) := by decide +kernel
theorem aTd_22 : decode method_3_code 22 = .ok (.iushr, 1) := by decide +kernel
theorem aTd_23 : decode method_3_code 23 = .ok (.sipush 255, 3) := by decide +kernel
theorem aTd_26 : decode method_3_code 26 = .ok (.iand, 1) := by decide +kernel
theorem aTd_27 : decode method_3_code 27 = .ok (.i2c, 1) := by decide +kernel
theorem aTd_28 : decode method_3_code 28 = .ok (.ireturn, 1) := by decide +kernel
set_option maxRecDepth 65536 in
set_option maxHeartbeats 40000000 in
theorem con_aT (l : Launch) {Z : State} {a0 : Array Value} {EL : List (String × Nat)} {h0 : Heap} (hw : ∀ d ∈ tables_1, d.before a0 Z = true) {i : Nat} (hi : ¬ i < 18) (hi2 : i < 20) {mk ps ch tl : Int32} (rc : ¬ ch < 0 ∧ ¬ (255 : Int32) < ch) (O : Ext Z.heap h0) : Con l Z a0 EL false none false (⟨"com/example/veneer/veneer/ServiceIriIsServiceIriPinLaw", "at", "(IIICI)C"⟩ : MethodName) method_3_code 6 (some .char) ({ frames := 0, cells := 0, slots := 0, locals := 0 } : Room) [] [] #[(.int (Int32.ofNat i)), (.int mk), (.int ps), (.int ch), (.int tl)] h0 (fun v _ => ∃ d, v = some (.int d) ∧ AtR i ps ch d) := by
  refine Con.enter (plainFor_of_name (by first | (simp [plainName, overriddenIn]; done) | decide +kernel)) O ?_
  intro p e s m below meth c T0 X0
  rw [show entryFrame m #[(.int (Int32.ofNat i)), (.int mk), (.int ps), (.int ch), (.int tl)] 6 = (mkF m 0 #[.val (.int (Int32.ofNat i)), .val (.int mk), .val (.int ps), .val (.int ch), .val (.int tl), .unset] []) from by first | (simp [entryFrame, mkF, argsToLocals, Value.category]; done) | rfl]
  refine Run.via (fun _ => XS.iloadN X0.at X0.ex rfl (X0.de aTd_0) rfl) ?_
  show Run _ _ _ _ _ _ _ _ _ _ _ _ _ T0 (mkF m 1 #[.val (.int (Int32.ofNat i)), .val (.int mk), .val (.int ps), .val (.int ch), .val (.int tl), .unset] [(.int (Int32.ofNat i))])
  refine Run.via (fun _ => XS.iloadN X0.at X0.ex rfl (X0.de aTd_1) rfl) ?_
  show Run _ _ _ _ _ _ _ _ _ _ _ _ _ T0 (mkF m 2 #[.val (.int (Int32.ofNat i)), .val (.int mk), .val (.int ps), .val (.int ch), .val (.int tl), .unset] [(.int ps), (.int (Int32.ofNat i))])
  by_cases q : (Int32.ofNat i) = ps
  ·
    refine Run.via (fun _ => XS.icmpNo X0.at X0.ex rfl (X0.de aTd_2) rfl (teq q).2) ?_
    show Run _ _ _ _ _ _ _ _ _ _ _ _ _ T0 (mkF m 5 #[.val (.int (Int32.ofNat i)), .val (.int mk), .val (.int ps), .val (.int ch), .val (.int tl), .unset] [])
    refine Run.via (fun _ => XS.iloadN X0.at X0.ex rfl (X0.de aTd_5) rfl) ?_
    show Run _ _ _ _ _ _ _ _ _ _ _ _ _ T0 (mkF m 6 #[.val (.int (Int32.ofNat i)), .val (.int mk), .val (.int ps), .val (.int ch), .val (.int tl), .unset] [(.int ch)])
    exact Run.retN X0 (t := .char) rfl (by simp) aTd_6 (Nat.le_of_ble_eq_true rfl) (Nat.le_of_ble_eq_true rfl) (⟨_, by rw [nar_lat rc], fun _ => rfl, fun z => absurd q z, rc⟩)
  ·
    refine Run.via (fun _ => XS.icmpYes X0.at X0.ex rfl (pc0 := 2) (pc' := 7) rfl (X0.de aTd_2) rfl (feq q).2 (by decide) (by decide)) ?_
    show Run _ _ _ _ _ _ _ _ _ _ _ _ _ T0 (mkF m 7 #[.val (.int (Int32.ofNat i)), .val (.int mk), .val (.int ps), .val (.int ch), .val (.int tl), .unset] [])
    refine Run.via (fun _ => XS.iloadN X0.at X0.ex rfl (X0.de aTd_7) rfl) ?_
    show Run _ _ _ _ _ _ _ _ _ _ _ _ _ T0 (mkF m 8 #[.val (.int (Int32.ofNat i)), .val (.int mk), .val (.int ps), .val (.int ch), .val (.int tl), .unset] [(.int (Int32.ofNat i))])
    refine Run.via (fun _ => XS.bipush X0.at X0.ex rfl (X0.de aTd_8)) ?_
    show Run _ _ _ _ _ _ _ _ _ _ _ _ _ T0 (mkF m 10 #[.val (.int (Int32.ofNat i)), .val (.int mk), .val (.int ps), .val (.int ch), .val (.int tl), .unset] [(.int (18 : Int32)), (.int (Int32.ofNat i))])
    refine Run.via (fun _ => XS.icmpNo X0.at X0.ex rfl (X0.de aTd_10) rfl (flt (fun z => by have := (i32lt (b := 18) (by omega) (by omega)).mp z; omega)).1) ?_
    show Run _ _ _ _ _ _ _ _ _ _ _ _ _ T0 (mkF m 13 #[.val (.int (Int32.ofNat i)), .val (.int mk), .val (.int ps), .val (.int ch), .val (.int tl), .unset] [])
    refine Run.via (fun _ => XS.iload X0.at X0.ex rfl (X0.de aTd_13) rfl) ?_
    show Run _ _ _ _ _ _ _ _ _ _ _ _ _ T0 (mkF m 15 #[.val (.int (Int32.ofNat i)), .val (.int mk), .val (.int ps), .val (.int ch), .val (.int tl), .unset] [(.int tl)])
    refine Run.via (fun _ => XS.iloadN X0.at X0.ex rfl (X0.de aTd_15) rfl) ?_
    show Run _ _ _ _ _ _ _ _ _ _ _ _ _ T0 (mkF m 16 #[.val (.int (Int32.ofNat i)), .val (.int mk), .val (.int ps), .val (.int ch), .val (.int tl), .unset] [(.int (Int32.ofNat i)), (.int tl)])
    refine Run.via (fun _ => XS.bipush X0.at X0.ex rfl (X0.de aTd_16)) ?_
    show Run _ _ _ _ _ _ _ _ _ _ _ _ _ T0 (mkF m 18 #[.val (.int (Int32.ofNat i)), .val (.int mk), .val (.int ps), .val (.int ch), .val (.int tl), .unset] [(.int (18 : Int32)), (.int (Int32.ofNat i)), (.int tl)])
    refine Run.via (fun _ => XS.isub X0.at X0.ex rfl (X0.de aTd_18) rfl) ?_
    show Run _ _ _ _ _ _ _ _ _ _ _ _ _ T0 (mkF m 19 #[.val (.int (Int32.ofNat i)), .val (.int mk), .val (.int ps), .val (.int ch), .val (.int tl), .unset] [(.int ((Int32.ofNat i) - (18 : Int32))), (.int tl)])
    refine Run.via (fun _ => XS.bipush X0.at X0.ex rfl (X0.de aTd_19)) ?_
    show Run _ _ _ _ _ _ _ _ _ _ _ _ _ T0 (mkF m 21 #[.val (.int (Int32.ofNat i)), .val (.int mk), .val (.int ps), .val (.int ch), .val (.int tl), .unset] [(.int (8 : Int32)), (.int ((Int32.ofNat i) - (18 : Int32))), (.int tl)])
    refine Run.via (fun _ => XS.imul X0.at X0.ex rfl (X0.de aTd_21) rfl) ?_
    show Run _ _ _ _ _ _ _ _ _ _ _ _ _ T0 (mkF m 22 #[.val (.int (Int32.ofNat i)), .val (.int mk), .val (.int ps), .val (.int ch), .val (.int tl), .unset] [(.int (((Int32.ofNat i) - (18 : Int32)) * (8 : Int32))), (.int tl)])
    refine Run.via (fun _ => XS.iushr X0.at X0.ex rfl (X0.de aTd_22) rfl) ?_
    show Run _ _ _ _ _ _ _ _ _ _ _ _ _ T0 (mkF m 23 #[.val (.int (Int32.ofNat i)), .val (.int mk), .val (.int ps), .val (.int ch), .val (.int tl), .unset] [(.int ((tl.toUInt32 >>> ((((Int32.ofNat i) - (18 : Int32)) * (8 : Int32)) &&& 31).toUInt32).toInt32))])
    refine Run.via (fun _ => XS.sipush X0.at X0.ex rfl (X0.de aTd_23)) ?_
    show Run _ _ _ _ _ _ _ _ _ _ _ _ _ T0 (mkF m 26 #[.val (.int (Int32.ofNat i)), .val (.int mk), .val (.int ps), .val (.int ch), .val (.int tl), .unset] [(.int (255 : Int32)), (.int ((tl.toUInt32 >>> ((((Int32.ofNat i) - (18 : Int32)) * (8 : Int32)) &&& 31).toUInt32).toInt32))])
    refine Run.via (fun _ => XS.iand X0.at X0.ex rfl (X0.de aTd_26) rfl) ?_
    show Run _ _ _ _ _ _ _ _ _ _ _ _ _ T0 (mkF m 27 #[.val (.int (Int32.ofNat i)), .val (.int mk), .val (.int ps), .val (.int ch), .val (.int tl), .unset] [(.int (((tl.toUInt32 >>> ((((Int32.ofNat i) - (18 : Int32)) * (8 : Int32)) &&& 31).toUInt32).toInt32) &&& (255 : Int32)))])
    refine Run.via (fun _ => XS.i2c X0.at X0.ex rfl (X0.de aTd_27) rfl) ?_
    show Run _ _ _ _ _ _ _ _ _ _ _ _ _ T0 (mkF m 28 #[.val (.int (Int32.ofNat i)), .val (.int mk), .val (.int ps), .val (.int ch), .val (.int tl), .unset] [(.int ((((tl.toUInt32 >>> ((((Int32.ofNat i) - (18 : Int32)) * (8 : Int32)) &&& 31).toUInt32).toInt32) &&& (255 : Int32)).toUInt32.toUInt16.toUInt32.toInt32))])
    exact Run.retN X0 (t := .char) rfl (by simp) aTd_28 (Nat.le_of_ble_eq_true rfl) (Nat.le_of_ble_eq_true rfl) (⟨_, by rw [nar_i2c], fun z => absurd z q, fun _ z => absurd z (by omega), and255 _⟩)
-- part con_eb
theorem ebd_0 : decode jdk_116_method_22_code 0 = .ok (.iload_n 0, 1) := by decide +kernel
theorem ebd_1 : decode jdk_116_method_22_code 1 = .ok (.iload_n 1, 1) := by decide +kernel
theorem ebd_2 : decode jdk_116_method_22_code 2 = .ok (.if_icmp .ne 5, 3) := by decide +kernel
theorem ebd_5 : decode jdk_116_method_22_code 5 = .ok (.iconst 1, 1) := by decide +kernel
theorem ebd_6 : decode jdk_116_method_22_code 6 = .ok (.ireturn, 1) := by decide +kernel
theorem ebd_7 : decode jdk_116_method_22_code 7 = .ok (.iload_n 0, 1) := by decide +kernel
theorem ebd_8 : decode jdk_116_method_22_code 8 = .ok (.sipush 223, 3) := by decide +kernel
theorem ebd_11 : decode jdk_116_method_22_code 11 = .ok (.iand, 1) := by decide +kernel
theorem ebd_12 : decode jdk_116_method_22_code 12 = .ok (.istore_n 2, 1) := by decide +kernel
theorem ebd_13 : decode jdk_116_method_22_code 13 = .ok (.iload_n 2, 1) := by decide +kernel
theorem ebd_14 : decode jdk_116_method_22_code 14 = .ok (.bipush 65, 2) := by decide +kernel
theorem ebd_16 : decode jdk_116_method_22_code 16 = .ok (.if_icmp .ge 5, 3) := by decide +kernel
theorem ebd_19 : decode jdk_116_method_22_code 19 = .ok (.iconst 0, 1) := by decide +kernel
theorem ebd_20 : decode jdk_116_method_22_code 20 = .ok (.ireturn, 1) := by decide +kernel
theorem ebd_21 : decode jdk_116_method_22_code 21 = .ok (.iload_n 2, 1) := by decide +kernel
theorem ebd_22 : decode jdk_116_method_22_code 22 = .ok (.bipush 90, 2) := by decide +kernel
theorem ebd_24 : decode jdk_116_method_22_code 24 = .ok (.if_icmp .le 24, 3) := by decide +kernel
theorem ebd_27 : decode jdk_116_method_22_code 27 = .ok (.iload_n 2, 1) := by decide +kernel
theorem ebd_28 : decode jdk_116_method_22_code 28 = .ok (.sipush 192, 3) := by decide +kernel
theorem ebd_31 : decode jdk_116_method_22_code 31 = .ok (.if_icmp .lt 30, 3) := by decide +kernel
theorem ebd_34 : decode jdk_116_method_22_code 34 = .ok (.iload_n 2, 1) := by decide +kernel
theorem ebd_35 : decode jdk_116_method_22_code 35 = .ok (.sipush 222, 3) := by decide +kernel
theorem ebd_38 : decode jdk_116_method_22_code 38 = .ok (.if_icmp .gt 23, 3) := by decide +kernel
theorem ebd_41 : decode jdk_116_method_22_code 41 = .ok (.iload_n 2, 1) := by decide +kernel
theorem ebd_42 : decode jdk_116_method_22_code 42 = .ok (.sipush 215, 3) := by decide +kernel
theorem ebd_45 : decode jdk_116_method_22_code 45 = .ok (.if_icmp .eq 16, 3) := by decide +kernel
theorem ebd_48 : decode jdk_116_method_22_code 48 = .ok (.iload_n 2, 1) := by decide +kernel
theorem ebd_49 : decode jdk_116_method_22_code 49 = .ok (.iload_n 1, 1) := by decide +kernel
theorem ebd_50 : decode jdk_116_method_22_code 50 = .ok (.sipush 223, 3) := by decide +kernel
theorem ebd_53 : decode jdk_116_method_22_code 53 = .ok (.iand, 1) := by decide +kernel
theorem ebd_54 : decode jdk_116_method_22_code 54 = .ok (.if_icmp .ne 7, 3) := by decide +kernel
theorem ebd_57 : decode jdk_116_method_22_code 57 = .ok (.iconst 1, 1) := by decide +kernel
theorem ebd_58 : decode jdk_116_method_22_code 58 = .ok (.goto 4, 3) := by decide +kernel
theorem ebd_61 : decode jdk_116_method_22_code 61 = .ok (.iconst 0, 1) := by decide +kernel
theorem ebd_62 : decode jdk_116_method_22_code 62 = .ok (.ireturn, 1) := by decide +kernel
set_option maxRecDepth 65536 in
set_option maxHeartbeats 40000000 in
theorem con_eb (l : Launch) {Z : State} {a0 : Array Value} {EL : List (String × Nat)} {h0 : Heap} (hw : ∀ d ∈ tables_1, d.before a0 Z = true) {x y : Int32} (O : Ext Z.heap h0) : Con l Z a0 EL false none false (⟨"java/lang/CharacterDataLatin1", "equalsIgnoreCase", "(BB)Z"⟩ : MethodName) jdk_116_method_22_code 3 (some .boolean) ({ frames := 0, cells := 0, slots := 0, locals := 0 } : Room) [] [] #[(.int x), (.int y)] h0 (fun v h => v = some (.int (eicV x y)) ∧ h0 = h) := by
  refine Con.enter (plainFor_of_name (by first | (simp [plainName, overriddenIn]; done) | decide +kernel)) O ?_
  intro p e s m below meth c T0 X0
  rw [show entryFrame m #[(.int x), (.int y)] 3 = (mkF m 0 #[.val (.int x), .val (.int y), .unset] []) from by first | (simp [entryFrame, mkF, argsToLocals, Value.category]; done) | rfl]
  refine Run.via (fun _ => XS.iloadN X0.at X0.ex rfl (X0.de ebd_0) rfl) ?_
  show Run _ _ _ _ _ _ _ _ _ _ _ _ _ T0 (mkF m 1 #[.val (.int x), .val (.int y), .unset] [(.int x)])
  refine Run.via (fun _ => XS.iloadN X0.at X0.ex rfl (X0.de ebd_1) rfl) ?_
  show Run _ _ _ _ _ _ _ _ _ _ _ _ _ T0 (mkF m 2 #[.val (.int x), .val (.int y), .unset] [(.int y), (.int x)])
  by_cases q0 : x = y
  ·
    refine Run.via (fun _ => XS.icmpNo X0.at X0.ex rfl (X0.de ebd_2) rfl (teq q0).2) ?_
    show Run _ _ _ _ _ _ _ _ _ _ _ _ _ T0 (mkF m 5 #[.val (.int x), .val (.int y), .unset] [])
    refine Run.via (fun _ => XS.iconst X0.at X0.ex rfl (X0.de ebd_5)) ?_
    show Run _ _ _ _ _ _ _ _ _ _ _ _ _ T0 (mkF m 6 #[.val (.int x), .val (.int y), .unset] [(.int (1 : Int32))])
    exact Run.retN X0 (t := .boolean) rfl (by simp) ebd_6 (Nat.le_of_ble_eq_true rfl) (Nat.le_of_ble_eq_true rfl) (⟨by unfold eicV; rw [if_pos q0]; rfl, rfl⟩)
  ·
    refine Run.via (fun _ => XS.icmpYes X0.at X0.ex rfl (pc0 := 2) (pc' := 7) rfl (X0.de ebd_2) rfl (feq q0).2 (by decide) (by decide)) ?_
    show Run _ _ _ _ _ _ _ _ _ _ _ _ _ T0 (mkF m 7 #[.val (.int x), .val (.int y), .unset] [])
    refine Run.via (fun _ => XS.iloadN X0.at X0.ex rfl (X0.de ebd_7) rfl) ?_
    show Run _ _ _ _ _ _ _ _ _ _ _ _ _ T0 (mkF m 8 #[.val (.int x), .val (.int y), .unset] [(.int x)])
    refine Run.via (fun _ => XS.sipush X0.at X0.ex rfl (X0.de ebd_8)) ?_
    show Run _ _ _ _ _ _ _ _ _ _ _ _ _ T0 (mkF m 11 #[.val (.int x), .val (.int y), .unset] [(.int (223 : Int32)), (.int x)])
    refine Run.via (fun _ => XS.iand X0.at X0.ex rfl (X0.de ebd_11) rfl) ?_
    show Run _ _ _ _ _ _ _ _ _ _ _ _ _ T0 (mkF m 12 #[.val (.int x), .val (.int y), .unset] [(.int (x &&& (223 : Int32)))])
    refine Run.via (fun _ => XS.istoreN X0.at X0.ex rfl (X0.de ebd_12) rfl (l' := #[.val (.int x), .val (.int y), .val (.int (x &&& (223 : Int32)))]) rfl) ?_
    show Run _ _ _ _ _ _ _ _ _ _ _ _ _ T0 (mkF m 13 #[.val (.int x), .val (.int y), .val (.int (x &&& (223 : Int32)))] [])
    refine Run.via (fun _ => XS.iloadN X0.at X0.ex rfl (X0.de ebd_13) rfl) ?_
    show Run _ _ _ _ _ _ _ _ _ _ _ _ _ T0 (mkF m 14 #[.val (.int x), .val (.int y), .val (.int (x &&& (223 : Int32)))] [(.int (x &&& (223 : Int32)))])
    refine Run.via (fun _ => XS.bipush X0.at X0.ex rfl (X0.de ebd_14)) ?_
    show Run _ _ _ _ _ _ _ _ _ _ _ _ _ T0 (mkF m 16 #[.val (.int x), .val (.int y), .val (.int (x &&& (223 : Int32)))] [(.int (65 : Int32)), (.int (x &&& (223 : Int32)))])
    by_cases q1 : (x &&& (223 : Int32)) < (65 : Int32)
    ·
      refine Run.via (fun _ => XS.icmpNo X0.at X0.ex rfl (X0.de ebd_16) rfl (tlt q1).2.1) ?_
      show Run _ _ _ _ _ _ _ _ _ _ _ _ _ T0 (mkF m 19 #[.val (.int x), .val (.int y), .val (.int (x &&& (223 : Int32)))] [])
      refine Run.via (fun _ => XS.iconst X0.at X0.ex rfl (X0.de ebd_19)) ?_
      show Run _ _ _ _ _ _ _ _ _ _ _ _ _ T0 (mkF m 20 #[.val (.int x), .val (.int y), .val (.int (x &&& (223 : Int32)))] [(.int (0 : Int32))])
      exact Run.retN X0 (t := .boolean) rfl (by simp) ebd_20 (Nat.le_of_ble_eq_true rfl) (Nat.le_of_ble_eq_true rfl) (⟨by unfold eicV; rw [if_neg q0, if_pos q1]; rfl, rfl⟩)
    ·
      refine Run.via (fun _ => XS.icmpYes X0.at X0.ex rfl (pc0 := 16) (pc' := 21) rfl (X0.de ebd_16) rfl (flt q1).2.1 (by decide) (by decide)) ?_
      show Run _ _ _ _ _ _ _ _ _ _ _ _ _ T0 (mkF m 21 #[.val (.int x), .val (.int y), .val (.int (x &&& (223 : Int32)))] [])
      refine Run.via (fun _ => XS.iloadN X0.at X0.ex rfl (X0.de ebd_21) rfl) ?_
      show Run _ _ _ _ _ _ _ _ _ _ _ _ _ T0 (mkF m 22 #[.val (.int x), .val (.int y), .val (.int (x &&& (223 : Int32)))] [(.int (x &&& (223 : Int32)))])
      refine Run.via (fun _ => XS.bipush X0.at X0.ex rfl (X0.de ebd_22)) ?_
      show Run _ _ _ _ _ _ _ _ _ _ _ _ _ T0 (mkF m 24 #[.val (.int x), .val (.int y), .val (.int (x &&& (223 : Int32)))] [(.int (90 : Int32)), (.int (x &&& (223 : Int32)))])
      by_cases q2 : (90 : Int32) < (x &&& (223 : Int32))
      ·
        refine Run.via (fun _ => XS.icmpNo X0.at X0.ex rfl (X0.de ebd_24) rfl (tlt q2).2.2.2) ?_
        show Run _ _ _ _ _ _ _ _ _ _ _ _ _ T0 (mkF m 27 #[.val (.int x), .val (.int y), .val (.int (x &&& (223 : Int32)))] [])
        refine Run.via (fun _ => XS.iloadN X0.at X0.ex rfl (X0.de ebd_27) rfl) ?_
        show Run _ _ _ _ _ _ _ _ _ _ _ _ _ T0 (mkF m 28 #[.val (.int x), .val (.int y), .val (.int (x &&& (223 : Int32)))] [(.int (x &&& (223 : Int32)))])
        refine Run.via (fun _ => XS.sipush X0.at X0.ex rfl (X0.de ebd_28)) ?_
        show Run _ _ _ _ _ _ _ _ _ _ _ _ _ T0 (mkF m 31 #[.val (.int x), .val (.int y), .val (.int (x &&& (223 : Int32)))] [(.int (192 : Int32)), (.int (x &&& (223 : Int32)))])
        by_cases q3 : (x &&& (223 : Int32)) < (192 : Int32)
        ·
          refine Run.via (fun _ => XS.icmpYes X0.at X0.ex rfl (pc0 := 31) (pc' := 61) rfl (X0.de ebd_31) rfl (tlt q3).1 (by decide) (by decide)) ?_
          show Run _ _ _ _ _ _ _ _ _ _ _ _ _ T0 (mkF m 61 #[.val (.int x), .val (.int y), .val (.int (x &&& (223 : Int32)))] [])
          refine Run.via (fun _ => XS.iconst X0.at X0.ex rfl (X0.de ebd_61)) ?_
          show Run _ _ _ _ _ _ _ _ _ _ _ _ _ T0 (mkF m 62 #[.val (.int x), .val (.int y), .val (.int (x &&& (223 : Int32)))] [(.int (0 : Int32))])
          exact Run.retN X0 (t := .boolean) rfl (by simp) ebd_62 (Nat.le_of_ble_eq_true rfl) (Nat.le_of_ble_eq_true rfl) (⟨by unfold eicV; rw [if_neg q0, if_neg q1, if_pos q2, if_pos q3]; rfl, rfl⟩)
        ·
          refine Run.via (fun _ => XS.icmpNo X0.at X0.ex rfl (X0.de ebd_31) rfl (flt q3).1) ?_
          show Run _ _ _ _ _ _ _ _ _ _ _ _ _ T0 (mkF m 34 #[.val (.int x), .val (.int y), .val (.int (x &&& (223 : Int32)))] [])
          refine Run.via (fun _ => XS.iloadN X0.at X0.ex rfl (X0.de ebd_34) rfl) ?_
          show Run _ _ _ _ _ _ _ _ _ _ _ _ _ T0 (mkF m 35 #[.val (.int x), .val (.int y), .val (.int (x &&& (223 : Int32)))] [(.int (x &&& (223 : Int32)))])
          refine Run.via (fun _ => XS.sipush X0.at X0.ex rfl (X0.de ebd_35)) ?_
          show Run _ _ _ _ _ _ _ _ _ _ _ _ _ T0 (mkF m 38 #[.val (.int x), .val (.int y), .val (.int (x &&& (223 : Int32)))] [(.int (222 : Int32)), (.int (x &&& (223 : Int32)))])
          by_cases q4 : (222 : Int32) < (x &&& (223 : Int32))
          ·
            refine Run.via (fun _ => XS.icmpYes X0.at X0.ex rfl (pc0 := 38) (pc' := 61) rfl (X0.de ebd_38) rfl (tlt q4).2.2.1 (by decide) (by decide)) ?_
            show Run _ _ _ _ _ _ _ _ _ _ _ _ _ T0 (mkF m 61 #[.val (.int x), .val (.int y), .val (.int (x &&& (223 : Int32)))] [])
            refine Run.via (fun _ => XS.iconst X0.at X0.ex rfl (X0.de ebd_61)) ?_
            show Run _ _ _ _ _ _ _ _ _ _ _ _ _ T0 (mkF m 62 #[.val (.int x), .val (.int y), .val (.int (x &&& (223 : Int32)))] [(.int (0 : Int32))])
            exact Run.retN X0 (t := .boolean) rfl (by simp) ebd_62 (Nat.le_of_ble_eq_true rfl) (Nat.le_of_ble_eq_true rfl) (⟨by unfold eicV; rw [if_neg q0, if_neg q1, if_pos q2, if_neg q3, if_pos q4]; rfl, rfl⟩)
          ·
            refine Run.via (fun _ => XS.icmpNo X0.at X0.ex rfl (X0.de ebd_38) rfl (flt q4).2.2.1) ?_
            show Run _ _ _ _ _ _ _ _ _ _ _ _ _ T0 (mkF m 41 #[.val (.int x), .val (.int y), .val (.int (x &&& (223 : Int32)))] [])
            refine Run.via (fun _ => XS.iloadN X0.at X0.ex rfl (X0.de ebd_41) rfl) ?_
            show Run _ _ _ _ _ _ _ _ _ _ _ _ _ T0 (mkF m 42 #[.val (.int x), .val (.int y), .val (.int (x &&& (223 : Int32)))] [(.int (x &&& (223 : Int32)))])
            refine Run.via (fun _ => XS.sipush X0.at X0.ex rfl (X0.de ebd_42)) ?_
            show Run _ _ _ _ _ _ _ _ _ _ _ _ _ T0 (mkF m 45 #[.val (.int x), .val (.int y), .val (.int (x &&& (223 : Int32)))] [(.int (215 : Int32)), (.int (x &&& (223 : Int32)))])
            by_cases q5 : (x &&& (223 : Int32)) = (215 : Int32)
            ·
              refine Run.via (fun _ => XS.icmpYes X0.at X0.ex rfl (pc0 := 45) (pc' := 61) rfl (X0.de ebd_45) rfl (teq q5).1 (by decide) (by decide)) ?_
              show Run _ _ _ _ _ _ _ _ _ _ _ _ _ T0 (mkF m 61 #[.val (.int x), .val (.int y), .val (.int (x &&& (223 : Int32)))] [])
              refine Run.via (fun _ => XS.iconst X0.at X0.ex rfl (X0.de ebd_61)) ?_
              show Run _ _ _ _ _ _ _ _ _ _ _ _ _ T0 (mkF m 62 #[.val (.int x), .val (.int y), .val (.int (x &&& (223 : Int32)))] [(.int (0 : Int32))])
              exact Run.retN X0 (t := .boolean) rfl (by simp) ebd_62 (Nat.le_of_ble_eq_true rfl) (Nat.le_of_ble_eq_true rfl) (⟨by unfold eicV; rw [if_neg q0, if_neg q1, if_pos q2, if_neg q3, if_neg q4, if_pos q5]; rfl, rfl⟩)
            ·
              refine Run.via (fun _ => XS.icmpNo X0.at X0.ex rfl (X0.de ebd_45) rfl (feq q5).1) ?_
              show Run _ _ _ _ _ _ _ _ _ _ _ _ _ T0 (mkF m 48 #[.val (.int x), .val (.int y), .val (.int (x &&& (223 : Int32)))] [])
              refine Run.via (fun _ => XS.iloadN X0.at X0.ex rfl (X0.de ebd_48) rfl) ?_
              show Run _ _ _ _ _ _ _ _ _ _ _ _ _ T0 (mkF m 49 #[.val (.int x), .val (.int y), .val (.int (x &&& (223 : Int32)))] [(.int (x &&& (223 : Int32)))])
              refine Run.via (fun _ => XS.iloadN X0.at X0.ex rfl (X0.de ebd_49) rfl) ?_
              show Run _ _ _ _ _ _ _ _ _ _ _ _ _ T0 (mkF m 50 #[.val (.int x), .val (.int y), .val (.int (x &&& (223 : Int32)))] [(.int y), (.int (x &&& (223 : Int32)))])
              refine Run.via (fun _ => XS.sipush X0.at X0.ex rfl (X0.de ebd_50)) ?_
              show Run _ _ _ _ _ _ _ _ _ _ _ _ _ T0 (mkF m 53 #[.val (.int x), .val (.int y), .val (.int (x &&& (223 : Int32)))] [(.int (223 : Int32)), (.int y), (.int (x &&& (223 : Int32)))])
              refine Run.via (fun _ => XS.iand X0.at X0.ex rfl (X0.de ebd_53) rfl) ?_
              show Run _ _ _ _ _ _ _ _ _ _ _ _ _ T0 (mkF m 54 #[.val (.int x), .val (.int y), .val (.int (x &&& (223 : Int32)))] [(.int (y &&& (223 : Int32))), (.int (x &&& (223 : Int32)))])
              by_cases q6 : (x &&& (223 : Int32)) = (y &&& (223 : Int32))
              ·
                refine Run.via (fun _ => XS.icmpNo X0.at X0.ex rfl (X0.de ebd_54) rfl (teq q6).2) ?_
                show Run _ _ _ _ _ _ _ _ _ _ _ _ _ T0 (mkF m 57 #[.val (.int x), .val (.int y), .val (.int (x &&& (223 : Int32)))] [])
                refine Run.via (fun _ => XS.iconst X0.at X0.ex rfl (X0.de ebd_57)) ?_
                show Run _ _ _ _ _ _ _ _ _ _ _ _ _ T0 (mkF m 58 #[.val (.int x), .val (.int y), .val (.int (x &&& (223 : Int32)))] [(.int (1 : Int32))])
                refine Run.via (fun _ => XS.goto X0.at X0.ex rfl (pc0 := 58) (pc' := 62) rfl (X0.de ebd_58) (by decide) (by decide)) ?_
                show Run _ _ _ _ _ _ _ _ _ _ _ _ _ T0 (mkF m 62 #[.val (.int x), .val (.int y), .val (.int (x &&& (223 : Int32)))] [(.int (1 : Int32))])
                exact Run.retN X0 (t := .boolean) rfl (by simp) ebd_62 (Nat.le_of_ble_eq_true rfl) (Nat.le_of_ble_eq_true rfl) (⟨by unfold eicV; rw [if_neg q0, if_neg q1, if_pos q2, if_neg q3, if_neg q4, if_neg q5, if_pos q6]; rfl, rfl⟩)
              ·
                refine Run.via (fun _ => XS.icmpYes X0.at X0.ex rfl (pc0 := 54) (pc' := 61) rfl (X0.de ebd_54) rfl (feq q6).2 (by decide) (by decide)) ?_
                show Run _ _ _ _ _ _ _ _ _ _ _ _ _ T0 (mkF m 61 #[.val (.int x), .val (.int y), .val (.int (x &&& (223 : Int32)))] [])
                refine Run.via (fun _ => XS.iconst X0.at X0.ex rfl (X0.de ebd_61)) ?_
                show Run _ _ _ _ _ _ _ _ _ _ _ _ _ T0 (mkF m 62 #[.val (.int x), .val (.int y), .val (.int (x &&& (223 : Int32)))] [(.int (0 : Int32))])
                exact Run.retN X0 (t := .boolean) rfl (by simp) ebd_62 (Nat.le_of_ble_eq_true rfl) (Nat.le_of_ble_eq_true rfl) (⟨by unfold eicV; rw [if_neg q0, if_neg q1, if_pos q2, if_neg q3, if_neg q4, if_neg q5, if_neg q6]; rfl, rfl⟩)
      ·
        refine Run.via (fun _ => XS.icmpYes X0.at X0.ex rfl (pc0 := 24) (pc' := 48) rfl (X0.de ebd_24) rfl (flt q2).2.2.2 (by decide) (by decide)) ?_
        show Run _ _ _ _ _ _ _ _ _ _ _ _ _ T0 (mkF m 48 #[.val (.int x), .val (.int y), .val (.int (x &&& (223 : Int32)))] [])
        refine Run.via (fun _ => XS.iloadN X0.at X0.ex rfl (X0.de ebd_48) rfl) ?_
        show Run _ _ _ _ _ _ _ _ _ _ _ _ _ T0 (mkF m 49 #[.val (.int x), .val (.int y), .val (.int (x &&& (223 : Int32)))] [(.int (x &&& (223 : Int32)))])
        refine Run.via (fun _ => XS.iloadN X0.at X0.ex rfl (X0.de ebd_49) rfl) ?_
        show Run _ _ _ _ _ _ _ _ _ _ _ _ _ T0 (mkF m 50 #[.val (.int x), .val (.int y), .val (.int (x &&& (223 : Int32)))] [(.int y), (.int (x &&& (223 : Int32)))])
        refine Run.via (fun _ => XS.sipush X0.at X0.ex rfl (X0.de ebd_50)) ?_
        show Run _ _ _ _ _ _ _ _ _ _ _ _ _ T0 (mkF m 53 #[.val (.int x), .val (.int y), .val (.int (x &&& (223 : Int32)))] [(.int (223 : Int32)), (.int y), (.int (x &&& (223 : Int32)))])
        refine Run.via (fun _ => XS.iand X0.at X0.ex rfl (X0.de ebd_53) rfl) ?_
        show Run _ _ _ _ _ _ _ _ _ _ _ _ _ T0 (mkF m 54 #[.val (.int x), .val (.int y), .val (.int (x &&& (223 : Int32)))] [(.int (y &&& (223 : Int32))), (.int (x &&& (223 : Int32)))])
        by_cases q6 : (x &&& (223 : Int32)) = (y &&& (223 : Int32))
        ·
          refine Run.via (fun _ => XS.icmpNo X0.at X0.ex rfl (X0.de ebd_54) rfl (teq q6).2) ?_
          show Run _ _ _ _ _ _ _ _ _ _ _ _ _ T0 (mkF m 57 #[.val (.int x), .val (.int y), .val (.int (x &&& (223 : Int32)))] [])
          refine Run.via (fun _ => XS.iconst X0.at X0.ex rfl (X0.de ebd_57)) ?_
          show Run _ _ _ _ _ _ _ _ _ _ _ _ _ T0 (mkF m 58 #[.val (.int x), .val (.int y), .val (.int (x &&& (223 : Int32)))] [(.int (1 : Int32))])
          refine Run.via (fun _ => XS.goto X0.at X0.ex rfl (pc0 := 58) (pc' := 62) rfl (X0.de ebd_58) (by decide) (by decide)) ?_
          show Run _ _ _ _ _ _ _ _ _ _ _ _ _ T0 (mkF m 62 #[.val (.int x), .val (.int y), .val (.int (x &&& (223 : Int32)))] [(.int (1 : Int32))])
          exact Run.retN X0 (t := .boolean) rfl (by simp) ebd_62 (Nat.le_of_ble_eq_true rfl) (Nat.le_of_ble_eq_true rfl) (⟨by unfold eicV; rw [if_neg q0, if_neg q1, if_neg q2, if_pos q6]; rfl, rfl⟩)
        ·
          refine Run.via (fun _ => XS.icmpYes X0.at X0.ex rfl (pc0 := 54) (pc' := 61) rfl (X0.de ebd_54) rfl (feq q6).2 (by decide) (by decide)) ?_
          show Run _ _ _ _ _ _ _ _ _ _ _ _ _ T0 (mkF m 61 #[.val (.int x), .val (.int y), .val (.int (x &&& (223 : Int32)))] [])
          refine Run.via (fun _ => XS.iconst X0.at X0.ex rfl (X0.de ebd_61)) ?_
          show Run _ _ _ _ _ _ _ _ _ _ _ _ _ T0 (mkF m 62 #[.val (.int x), .val (.int y), .val (.int (x &&& (223 : Int32)))] [(.int (0 : Int32))])
          exact Run.retN X0 (t := .boolean) rfl (by simp) ebd_62 (Nat.le_of_ble_eq_true rfl) (Nat.le_of_ble_eq_true rfl) (⟨by unfold eicV; rw [if_neg q0, if_neg q1, if_neg q2, if_neg q6]; rfl, rfl⟩)
-- part con_rc
theorem rcd_0 : decode jdk_43_method_30_code 0 = .ok (.iload_n 1, 1) := by decide +kernel
theorem rcd_1 : decode jdk_43_method_30_code 1 = .ok (.iload 4, 2) := by decide +kernel
theorem rcd_3 : decode jdk_43_method_30_code 3 = .ok (.iadd, 1) := by decide +kernel
theorem rcd_4 : decode jdk_43_method_30_code 4 = .ok (.istore 5, 2) := by decide +kernel
theorem rcd_6 : decode jdk_43_method_30_code 6 = .ok (.iload_n 1, 1) := by decide +kernel
theorem rcd_7 : decode jdk_43_method_30_code 7 = .ok (.iload 5, 2) := by decide +kernel
theorem rcd_9 : decode jdk_43_method_30_code 9 = .ok (.if_icmp .ge 34, 3) := by decide +kernel
theorem rcd_12 : decode jdk_43_method_30_code 12 = .ok (.aload_n 0, 1) := by decide +kernel
theorem rcd_13 : decode jdk_43_method_30_code 13 = .ok (.iload_n 1, 1) := by decide +kernel
theorem rcd_14 : decode jdk_43_method_30_code 14 = .ok (.iinc 1 1, 3) := by decide +kernel
theorem rcd_17 : decode jdk_43_method_30_code 17 = .ok (.baload, 1) := by decide +kernel
theorem rcd_18 : decode jdk_43_method_30_code 18 = .ok (.istore 6, 2) := by decide +kernel
theorem rcd_20 : decode jdk_43_method_30_code 20 = .ok (.aload_n 2, 1) := by decide +kernel
theorem rcd_21 : decode jdk_43_method_30_code 21 = .ok (.iload_n 3, 1) := by decide +kernel
theorem rcd_22 : decode jdk_43_method_30_code 22 = .ok (.iinc 3 1, 3) := by decide +kernel
theorem rcd_25 : decode jdk_43_method_30_code 25 = .ok (.baload, 1) := by decide +kernel
theorem rcd_26 : decode jdk_43_method_30_code 26 = .ok (.istore 7, 2) := by decide +kernel
theorem rcd_28 : decode jdk_43_method_30_code 28 = .ok (.iload 6, 2) := by decide +kernel
theorem rcd_30 : decode jdk_43_method_30_code 30 = .ok (.iload 7, 2) := by decide +kernel
theorem rcd_32 : decode jdk_43_method_30_code 32 = .ok (.invokestatic 153, 3) := by decide +kernel
theorem rcd_35 : decode jdk_43_method_30_code 35 = .ok (.ifCond .eq 6, 3) := by decide +kernel
theorem rcd_38 : decode jdk_43_method_30_code 38 = .ok (.goto (-32), 3) := by decide +kernel
theorem rcd_41 : decode jdk_43_method_30_code 41 = .ok (.iconst 0, 1) := by decide +kernel
theorem rcd_42 : decode jdk_43_method_30_code 42 = .ok (.ireturn, 1) := by decide +kernel
theorem rcd_43 : decode jdk_43_method_30_code 43 = .ok (.iconst 1, 1) := by decide +kernel
theorem rcd_44 : decode jdk_43_method_30_code 44 = .ok (.ireturn, 1) := by decide +kernel
set_option maxRecDepth 65536 in
set_option maxHeartbeats 40000000 in
theorem con_rc (l : Launch) {Z : State} {a0 : Array Value} {EL : List (String × Nat)} {h0 : Heap} (hw : ∀ d ∈ tables_1, d.before a0 Z = true) {t u : Addr} {bs cs : List Int32} (A : Arc .byte Z h0 t bs) (B : Arc .byte Z h0 u cs) (ha : 18 ≤ bs.length) (hb : 18 ≤ cs.length) (O : Ext Z.heap h0) : Con l Z a0 EL false none false (⟨"java/lang/StringLatin1", "regionMatchesCI", "([BI[BII)Z"⟩ : MethodName) jdk_43_method_30_code 8 (some .boolean) ({ frames := 1, cells := 0, slots := 0, locals := 16 } : Room) [] [] #[(.ref t), (.int (0 : Int32)), (.ref u), (.int (0 : Int32)), (.int (18 : Int32))] h0 (fun v _ => v = some (.int (if aeB (fun j => eicV (bs.getD j 0) (cs.getD j 0)) = true then 1 else 0))) := by
  refine Con.enter (plainFor_of_name (by first | (simp [plainName, overriddenIn]; done) | decide +kernel)) O ?_
  intro p e s m below meth c T0 X0
  rw [show entryFrame m #[(.ref t), (.int (0 : Int32)), (.ref u), (.int (0 : Int32)), (.int (18 : Int32))] 8 = (mkF m 0 #[.val (.ref t), .val (.int (0 : Int32)), .val (.ref u), .val (.int (0 : Int32)), .val (.int (18 : Int32)), .unset, .unset, .unset] []) from by first | (simp [entryFrame, mkF, argsToLocals, Value.category]; done) | rfl]
  refine Run.via (fun _ => XS.iloadN X0.at X0.ex rfl (X0.de rcd_0) rfl) ?_
  show Run _ _ _ _ _ _ _ _ _ _ _ _ _ T0 (mkF m 1 #[.val (.ref t), .val (.int (0 : Int32)), .val (.ref u), .val (.int (0 : Int32)), .val (.int (18 : Int32)), .unset, .unset, .unset] [(.int (0 : Int32))])
  refine Run.via (fun _ => XS.iload X0.at X0.ex rfl (X0.de rcd_1) rfl) ?_
  show Run _ _ _ _ _ _ _ _ _ _ _ _ _ T0 (mkF m 3 #[.val (.ref t), .val (.int (0 : Int32)), .val (.ref u), .val (.int (0 : Int32)), .val (.int (18 : Int32)), .unset, .unset, .unset] [(.int (18 : Int32)), (.int (0 : Int32))])
  refine Run.via (fun _ => XS.iadd X0.at X0.ex rfl (X0.de rcd_3) rfl) ?_
  show Run _ _ _ _ _ _ _ _ _ _ _ _ _ T0 (mkF m 4 #[.val (.ref t), .val (.int (0 : Int32)), .val (.ref u), .val (.int (0 : Int32)), .val (.int (18 : Int32)), .unset, .unset, .unset] [(.int (18 : Int32))])
  refine Run.via (fun _ => XS.istore X0.at X0.ex rfl (X0.de rcd_4) rfl (l' := #[.val (.ref t), .val (.int (0 : Int32)), .val (.ref u), .val (.int (0 : Int32)), .val (.int (18 : Int32)), .val (.int (18 : Int32)), .unset, .unset]) rfl) ?_
  show Run _ _ _ _ _ _ _ _ _ _ _ _ _ T0 (mkF m 6 #[.val (.ref t), .val (.int (0 : Int32)), .val (.ref u), .val (.int (0 : Int32)), .val (.int (18 : Int32)), .val (.int (18 : Int32)), .unset, .unset] [])
  have loop : ∀ (d i : Nat), 18 - i = d → i ≤ 18 → ∀ (Tl : State) (Lq : List Loc) (sl sm : Slot), One sl → One sm → Sit Z a0 EL none p l e ({ frames := 1, cells := 0, slots := 0, locals := 16 } : Room) s m #[(.ref t), (.int (0 : Int32)), (.ref u), (.int (0 : Int32)), (.int (18 : Int32))] below meth c "java/lang/StringLatin1" jdk_43_method_30_code 8 (some .boolean) "regionMatchesCI" h0 [] [] Tl h0 Lq 0 0 → (∀ j, j < i → ¬ eicV (bs.getD j 0) (cs.getD j 0) = 0) → Run Z EL false false p e below s h0 [] (fun v _ => v = some (.int (if aeB (fun j => eicV (bs.getD j 0) (cs.getD j 0)) = true then 1 else 0))) ({ frames := 1, cells := 0, slots := 0, locals := 16 } : Room).cells ({ frames := 1, cells := 0, slots := 0, locals := 16 } : Room).slots Tl (mkF m 6 #[.val (.ref t), .val (.int (Int32.ofNat i)), .val (.ref u), .val (.int (Int32.ofNat i)), .val (.int (18 : Int32)), .val (.int (18 : Int32)), sl, sm] []) := by
    intro d
    induction d with
    | zero =>
      intro i hd hi Tl Lq sl sm hsl hsm Xl hf
      obtain rfl : i = 18 := by omega
      refine Run.via (fun _ => XS.iloadN Xl.at Xl.ex rfl (Xl.de rcd_6) rfl) ?_
      show Run _ _ _ _ _ _ _ _ _ _ _ _ _ Tl (mkF m 7 #[.val (.ref t), .val (.int (Int32.ofNat 18)), .val (.ref u), .val (.int (Int32.ofNat 18)), .val (.int (18 : Int32)), .val (.int (18 : Int32)), sl, sm] [(.int (Int32.ofNat 18))])
      refine Run.via (fun _ => XS.iload Xl.at Xl.ex rfl (Xl.de rcd_7) rfl) ?_
      show Run _ _ _ _ _ _ _ _ _ _ _ _ _ Tl (mkF m 9 #[.val (.ref t), .val (.int (Int32.ofNat 18)), .val (.ref u), .val (.int (Int32.ofNat 18)), .val (.int (18 : Int32)), .val (.int (18 : Int32)), sl, sm] [(.int (18 : Int32)), (.int (Int32.ofNat 18))])
      refine Run.via (fun _ => XS.icmpYes Xl.at Xl.ex rfl (pc0 := 9) (pc' := 43) rfl (Xl.de rcd_9) rfl (flt (by decide : ¬ Int32.ofNat 18 < (18 : Int32))).2.1 (by decide) (by decide)) ?_
      show Run _ _ _ _ _ _ _ _ _ _ _ _ _ Tl (mkF m 43 #[.val (.ref t), .val (.int (Int32.ofNat 18)), .val (.ref u), .val (.int (Int32.ofNat 18)), .val (.int (18 : Int32)), .val (.int (18 : Int32)), sl, sm] [])
      refine Run.via (fun _ => XS.iconst Xl.at Xl.ex rfl (Xl.de rcd_43)) ?_
      show Run _ _ _ _ _ _ _ _ _ _ _ _ _ Tl (mkF m 44 #[.val (.ref t), .val (.int (Int32.ofNat 18)), .val (.ref u), .val (.int (Int32.ofNat 18)), .val (.int (18 : Int32)), .val (.int (18 : Int32)), sl, sm] [(.int (1 : Int32))])
      exact Run.retN Xl (t := .boolean) rfl (by simp) rcd_44 (Nat.le_of_ble_eq_true rfl) (Nat.le_of_ble_eq_true rfl) (by rw [if_pos (aeB_iff.mpr hf)]; rfl)
    | succ d ih =>
      intro i hd hi Tl Lq sl sm hsl hsm Xl hf
      have hi' : i < 18 := by omega
      refine Run.via (fun _ => XS.iloadN Xl.at Xl.ex rfl (Xl.de rcd_6) rfl) ?_
      show Run _ _ _ _ _ _ _ _ _ _ _ _ _ Tl (mkF m 7 #[.val (.ref t), .val (.int (Int32.ofNat i)), .val (.ref u), .val (.int (Int32.ofNat i)), .val (.int (18 : Int32)), .val (.int (18 : Int32)), sl, sm] [(.int (Int32.ofNat i))])
      refine Run.via (fun _ => XS.iload Xl.at Xl.ex rfl (Xl.de rcd_7) rfl) ?_
      show Run _ _ _ _ _ _ _ _ _ _ _ _ _ Tl (mkF m 9 #[.val (.ref t), .val (.int (Int32.ofNat i)), .val (.ref u), .val (.int (Int32.ofNat i)), .val (.int (18 : Int32)), .val (.int (18 : Int32)), sl, sm] [(.int (18 : Int32)), (.int (Int32.ofNat i))])
      refine Run.via (fun _ => XS.icmpNo Xl.at Xl.ex rfl (Xl.de rcd_9) rfl (tlt ((i32lt (b := 18) (by omega) (by omega)).mpr hi')).2.1) ?_
      show Run _ _ _ _ _ _ _ _ _ _ _ _ _ Tl (mkF m 12 #[.val (.ref t), .val (.int (Int32.ofNat i)), .val (.ref u), .val (.int (Int32.ofNat i)), .val (.int (18 : Int32)), .val (.int (18 : Int32)), sl, sm] [])
      refine Run.via (fun _ => XS.aloadN Xl.at Xl.ex rfl (Xl.de rcd_12) rfl rfl) ?_
      show Run _ _ _ _ _ _ _ _ _ _ _ _ _ Tl (mkF m 13 #[.val (.ref t), .val (.int (Int32.ofNat i)), .val (.ref u), .val (.int (Int32.ofNat i)), .val (.int (18 : Int32)), .val (.int (18 : Int32)), sl, sm] [(.ref t)])
      refine Run.via (fun _ => XS.iloadN Xl.at Xl.ex rfl (Xl.de rcd_13) rfl) ?_
      show Run _ _ _ _ _ _ _ _ _ _ _ _ _ Tl (mkF m 14 #[.val (.ref t), .val (.int (Int32.ofNat i)), .val (.ref u), .val (.int (Int32.ofNat i)), .val (.int (18 : Int32)), .val (.int (18 : Int32)), sl, sm] [(.int (Int32.ofNat i)), (.ref t)])
      refine Run.via (fun _ => XS.iinc Xl.at Xl.ex rfl (Xl.de rcd_14) rfl (l' := #[.val (.ref t), .val (.int ((Int32.ofNat i) + (1 : Int32))), .val (.ref u), .val (.int (Int32.ofNat i)), .val (.int (18 : Int32)), .val (.int (18 : Int32)), sl, sm]) rfl) ?_
      show Run _ _ _ _ _ _ _ _ _ _ _ _ _ Tl (mkF m 17 #[.val (.ref t), .val (.int ((Int32.ofNat i) + (1 : Int32))), .val (.ref u), .val (.int (Int32.ofNat i)), .val (.int (18 : Int32)), .val (.int (18 : Int32)), sl, sm] [(.int (Int32.ofNat i)), (.ref t)])
      refine Run.baload Xl (i := i) A rfl (by omega) rcd_17 ?_
      show Run _ _ _ _ _ _ _ _ _ _ _ _ _ Tl (mkF m 18 #[.val (.ref t), .val (.int ((Int32.ofNat i) + (1 : Int32))), .val (.ref u), .val (.int (Int32.ofNat i)), .val (.int (18 : Int32)), .val (.int (18 : Int32)), sl, sm] [(.int (bs.getD i 0))])
      refine Run.via (fun _ => XS.istoreS Xl.at Xl.ex rfl (Xl.de rcd_18) rfl rfl hsl) ?_
      show Run _ _ _ _ _ _ _ _ _ _ _ _ _ Tl (mkF m 20 #[.val (.ref t), .val (.int ((Int32.ofNat i) + (1 : Int32))), .val (.ref u), .val (.int (Int32.ofNat i)), .val (.int (18 : Int32)), .val (.int (18 : Int32)), .val (.int (bs.getD i 0)), sm] [])
      refine Run.via (fun _ => XS.aloadN Xl.at Xl.ex rfl (Xl.de rcd_20) rfl rfl) ?_
      show Run _ _ _ _ _ _ _ _ _ _ _ _ _ Tl (mkF m 21 #[.val (.ref t), .val (.int ((Int32.ofNat i) + (1 : Int32))), .val (.ref u), .val (.int (Int32.ofNat i)), .val (.int (18 : Int32)), .val (.int (18 : Int32)), .val (.int (bs.getD i 0)), sm] [(.ref u)])
      refine Run.via (fun _ => XS.iloadN Xl.at Xl.ex rfl (Xl.de rcd_21) rfl) ?_
      show Run _ _ _ _ _ _ _ _ _ _ _ _ _ Tl (mkF m 22 #[.val (.ref t), .val (.int ((Int32.ofNat i) + (1 : Int32))), .val (.ref u), .val (.int (Int32.ofNat i)), .val (.int (18 : Int32)), .val (.int (18 : Int32)), .val (.int (bs.getD i 0)), sm] [(.int (Int32.ofNat i)), (.ref u)])
      refine Run.via (fun _ => XS.iinc Xl.at Xl.ex rfl (Xl.de rcd_22) rfl (l' := #[.val (.ref t), .val (.int ((Int32.ofNat i) + (1 : Int32))), .val (.ref u), .val (.int ((Int32.ofNat i) + (1 : Int32))), .val (.int (18 : Int32)), .val (.int (18 : Int32)), .val (.int (bs.getD i 0)), sm]) rfl) ?_
      show Run _ _ _ _ _ _ _ _ _ _ _ _ _ Tl (mkF m 25 #[.val (.ref t), .val (.int ((Int32.ofNat i) + (1 : Int32))), .val (.ref u), .val (.int ((Int32.ofNat i) + (1 : Int32))), .val (.int (18 : Int32)), .val (.int (18 : Int32)), .val (.int (bs.getD i 0)), sm] [(.int (Int32.ofNat i)), (.ref u)])
      refine Run.baload Xl (i := i) B rfl (by omega) rcd_25 ?_
      show Run _ _ _ _ _ _ _ _ _ _ _ _ _ Tl (mkF m 26 #[.val (.ref t), .val (.int ((Int32.ofNat i) + (1 : Int32))), .val (.ref u), .val (.int ((Int32.ofNat i) + (1 : Int32))), .val (.int (18 : Int32)), .val (.int (18 : Int32)), .val (.int (bs.getD i 0)), sm] [(.int (cs.getD i 0))])
      refine Run.via (fun _ => XS.istoreS Xl.at Xl.ex rfl (Xl.de rcd_26) rfl rfl hsm) ?_
      show Run _ _ _ _ _ _ _ _ _ _ _ _ _ Tl (mkF m 28 #[.val (.ref t), .val (.int ((Int32.ofNat i) + (1 : Int32))), .val (.ref u), .val (.int ((Int32.ofNat i) + (1 : Int32))), .val (.int (18 : Int32)), .val (.int (18 : Int32)), .val (.int (bs.getD i 0)), .val (.int (cs.getD i 0))] [])
      refine Run.via (fun _ => XS.iload Xl.at Xl.ex rfl (Xl.de rcd_28) rfl) ?_
      show Run _ _ _ _ _ _ _ _ _ _ _ _ _ Tl (mkF m 30 #[.val (.ref t), .val (.int ((Int32.ofNat i) + (1 : Int32))), .val (.ref u), .val (.int ((Int32.ofNat i) + (1 : Int32))), .val (.int (18 : Int32)), .val (.int (18 : Int32)), .val (.int (bs.getD i 0)), .val (.int (cs.getD i 0))] [(.int (bs.getD i 0))])
      refine Run.via (fun _ => XS.iload Xl.at Xl.ex rfl (Xl.de rcd_30) rfl) ?_
      show Run _ _ _ _ _ _ _ _ _ _ _ _ _ Tl (mkF m 32 #[.val (.ref t), .val (.int ((Int32.ofNat i) + (1 : Int32))), .val (.ref u), .val (.int ((Int32.ofNat i) + (1 : Int32))), .val (.int (18 : Int32)), .val (.int (18 : Int32)), .val (.int (bs.getD i 0)), .val (.int (cs.getD i 0))] [(.int (cs.getD i 0)), (.int (bs.getD i 0))])
      refine Run.callS Xl (y := (⟨"java/lang/CharacterDataLatin1", "equalsIgnoreCase", "(BB)Z"⟩ : MethodName)) (W := 0) (con_eb l hw O) (wd hw 86 rfl) (wd hw 87 rfl) (wd hw 88 rfl) (wd hw 89 rfl) (by decide) pd__BB_Z rfl (argsL := [(.int (bs.getD i 0)), (.int (cs.getD i 0))]) (rest := []) rfl (Nat.le_of_ble_eq_true rfl) rfl rcd_32 (by decide) (by decide) (Nat.le_of_ble_eq_true rfl) (Nat.le_of_ble_eq_true rfl) (nofun) (nofun) ?_
      intro v101 T101 h101 L101 q101 X101 XF101 XK101 K101
      obtain ⟨rfl, rfl⟩ := q101
      show Run _ _ _ _ _ _ _ _ _ _ _ _ _ T101 (mkF m 35 #[.val (.ref t), .val (.int ((Int32.ofNat i) + (1 : Int32))), .val (.ref u), .val (.int ((Int32.ofNat i) + (1 : Int32))), .val (.int (18 : Int32)), .val (.int (18 : Int32)), .val (.int (bs.getD i 0)), .val (.int (cs.getD i 0))] [(.int (eicV (bs.getD i 0) (cs.getD i 0)))])
      by_cases q : (eicV (bs.getD i 0) (cs.getD i 0)) = (0 : Int32)
      ·
        refine Run.via (fun _ => XS.ifYes X101.at X101.ex rfl (pc0 := 35) (pc' := 41) rfl (X101.de rcd_35) rfl ((if0 _ _).trans (teq q).1) (by decide) (by decide)) ?_
        show Run _ _ _ _ _ _ _ _ _ _ _ _ _ T101 (mkF m 41 #[.val (.ref t), .val (.int ((Int32.ofNat i) + (1 : Int32))), .val (.ref u), .val (.int ((Int32.ofNat i) + (1 : Int32))), .val (.int (18 : Int32)), .val (.int (18 : Int32)), .val (.int (bs.getD i 0)), .val (.int (cs.getD i 0))] [])
        refine Run.via (fun _ => XS.iconst X101.at X101.ex rfl (X101.de rcd_41)) ?_
        show Run _ _ _ _ _ _ _ _ _ _ _ _ _ T101 (mkF m 42 #[.val (.ref t), .val (.int ((Int32.ofNat i) + (1 : Int32))), .val (.ref u), .val (.int ((Int32.ofNat i) + (1 : Int32))), .val (.int (18 : Int32)), .val (.int (18 : Int32)), .val (.int (bs.getD i 0)), .val (.int (cs.getD i 0))] [(.int (0 : Int32))])
        exact Run.retN X101 (t := .boolean) rfl (by simp) rcd_42 (Nat.le_of_ble_eq_true rfl) (Nat.le_of_ble_eq_true rfl) (by rw [if_neg (fun z : aeB (fun j => eicV (bs.getD j 0) (cs.getD j 0)) = true => aeB_iff.mp z i hi' q)]; rfl)
      ·
        refine Run.via (fun _ => XS.ifNo X101.at X101.ex rfl (X101.de rcd_35) rfl ((if0 _ _).trans (feq q).1)) ?_
        show Run _ _ _ _ _ _ _ _ _ _ _ _ _ T101 (mkF m 38 #[.val (.ref t), .val (.int ((Int32.ofNat i) + (1 : Int32))), .val (.ref u), .val (.int ((Int32.ofNat i) + (1 : Int32))), .val (.int (18 : Int32)), .val (.int (18 : Int32)), .val (.int (bs.getD i 0)), .val (.int (cs.getD i 0))] [])
        refine Run.via (fun _ => XS.goto X101.at X101.ex rfl (pc0 := 38) (pc' := 6) rfl (X101.de rcd_38) (by decide) (by decide)) ?_
        show Run _ _ _ _ _ _ _ _ _ _ _ _ _ T101 (mkF m 6 #[.val (.ref t), .val (.int ((Int32.ofNat i) + (1 : Int32))), .val (.ref u), .val (.int ((Int32.ofNat i) + (1 : Int32))), .val (.int (18 : Int32)), .val (.int (18 : Int32)), .val (.int (bs.getD i 0)), .val (.int (cs.getD i 0))] [])
        rw [i32succ (by omega)]
        exact ih (i + 1) (by omega) (by omega) _ _ _ _ (One.val rfl) (One.val rfl) X101 (fun j hj => (Nat.lt_succ_iff_lt_or_eq.mp hj).elim (hf j) (fun z => z ▸ q))
  exact loop 18 0 (by omega) (by omega) _ _ _ _ One.u One.u X0 (fun j hj => absurd hj (Nat.not_lt_zero j))
-- part con_rm
theorem rmd_0 : decode jdk_42_method_74_code 0 = .ok (.iload_n 1, 1) := by decide +kernel
theorem rmd_1 : decode jdk_42_method_74_code 1 = .ok (.ifCond .ne 14, 3) := by decide +kernel
theorem rmd_15 : decode jdk_42_method_74_code 15 = .ok (.iload 4, 2) := by decide +kernel
theorem rmd_17 : decode jdk_42_method_74_code 17 = .ok (.ifCond .lt 38, 3) := by decide +kernel
theorem rmd_20 : decode jdk_42_method_74_code 20 = .ok (.iload_n 2, 1) := by decide +kernel
theorem rmd_21 : decode jdk_42_method_74_code 21 = .ok (.ifCond .lt 34, 3) := by decide +kernel
theorem rmd_24 : decode jdk_42_method_74_code 24 = .ok (.iload_n 2, 1) := by decide +kernel
theorem rmd_25 : decode jdk_42_method_74_code 25 = .ok (.i2l, 1) := by decide +kernel
theorem rmd_26 : decode jdk_42_method_74_code 26 = .ok (.aload_n 0, 1) := by decide +kernel
theorem rmd_27 : decode jdk_42_method_74_code 27 = .ok (.invokevirtual 505, 3) := by decide +kernel
theorem rmd_30 : decode jdk_42_method_74_code 30 = .ok (.i2l, 1) := by decide +kernel
theorem rmd_31 : decode jdk_42_method_74_code 31 = .ok (.iload 5, 2) := by decide +kernel
theorem rmd_33 : decode jdk_42_method_74_code 33 = .ok (.i2l, 1) := by decide +kernel
theorem rmd_34 : decode jdk_42_method_74_code 34 = .ok (.lsub, 1) := by decide +kernel
theorem rmd_35 : decode jdk_42_method_74_code 35 = .ok (.lcmp, 1) := by decide +kernel
theorem rmd_36 : decode jdk_42_method_74_code 36 = .ok (.ifCond .gt 19, 3) := by decide +kernel
theorem rmd_39 : decode jdk_42_method_74_code 39 = .ok (.iload 4, 2) := by decide +kernel
theorem rmd_41 : decode jdk_42_method_74_code 41 = .ok (.i2l, 1) := by decide +kernel
theorem rmd_42 : decode jdk_42_method_74_code 42 = .ok (.aload_n 3, 1) := by decide +kernel
theorem rmd_43 : decode jdk_42_method_74_code 43 = .ok (.invokevirtual 505, 3) := by decide +kernel
theorem rmd_46 : decode jdk_42_method_74_code 46 = .ok (.i2l, 1) := by decide +kernel
theorem rmd_47 : decode jdk_42_method_74_code 47 = .ok (.iload 5, 2) := by decide +kernel
theorem rmd_49 : decode jdk_42_method_74_code 49 = .ok (.i2l, 1) := by decide +kernel
theorem rmd_50 : decode jdk_42_method_74_code 50 = .ok (.lsub, 1) := by decide +kernel
theorem rmd_51 : decode jdk_42_method_74_code 51 = .ok (.lcmp, 1) := by decide +kernel
theorem rmd_52 : decode jdk_42_method_74_code 52 = .ok (.ifCond .le 5, 3) := by decide +kernel
theorem rmd_55 : decode jdk_42_method_74_code 55 = .ok (.iconst 0, 1) := by decide +kernel
theorem rmd_56 : decode jdk_42_method_74_code 56 = .ok (.ireturn, 1) := by decide +kernel
theorem rmd_57 : decode jdk_42_method_74_code 57 = .ok (.aload_n 0, 1) := by decide +kernel
theorem rmd_58 : decode jdk_42_method_74_code 58 = .ok (.getfield 9, 3) := by decide +kernel
theorem rmd_61 : decode jdk_42_method_74_code 61 = .ok (.astore 6, 2) := by decide +kernel
theorem rmd_63 : decode jdk_42_method_74_code 63 = .ok (.aload_n 3, 1) := by decide +kernel
theorem rmd_64 : decode jdk_42_method_74_code 64 = .ok (.getfield 9, 3) := by decide +kernel
theorem rmd_67 : decode jdk_42_method_74_code 67 = .ok (.astore 7, 2) := by decide +kernel
theorem rmd_69 : decode jdk_42_method_74_code 69 = .ok (.aload_n 0, 1) := by decide +kernel
theorem rmd_70 : decode jdk_42_method_74_code 70 = .ok (.invokevirtual 335, 3) := by decide +kernel
theorem rmd_73 : decode jdk_42_method_74_code 73 = .ok (.istore 8, 2) := by decide +kernel
theorem rmd_75 : decode jdk_42_method_74_code 75 = .ok (.iload 8, 2) := by decide +kernel
theorem rmd_77 : decode jdk_42_method_74_code 77 = .ok (.aload_n 3, 1) := by decide +kernel
theorem rmd_78 : decode jdk_42_method_74_code 78 = .ok (.invokevirtual 335, 3) := by decide +kernel
theorem rmd_81 : decode jdk_42_method_74_code 81 = .ok (.if_icmp .ne 36, 3) := by decide +kernel
theorem rmd_84 : decode jdk_42_method_74_code 84 = .ok (.iload 8, 2) := by decide +kernel
theorem rmd_86 : decode jdk_42_method_74_code 86 = .ok (.ifCond .ne 18, 3) := by decide +kernel
theorem rmd_89 : decode jdk_42_method_74_code 89 = .ok (.aload 6, 2) := by decide +kernel
theorem rmd_91 : decode jdk_42_method_74_code 91 = .ok (.iload_n 2, 1) := by decide +kernel
theorem rmd_92 : decode jdk_42_method_74_code 92 = .ok (.aload 7, 2) := by decide +kernel
theorem rmd_94 : decode jdk_42_method_74_code 94 = .ok (.iload 4, 2) := by decide +kernel
theorem rmd_96 : decode jdk_42_method_74_code 96 = .ok (.iload 5, 2) := by decide +kernel
theorem rmd_98 : decode jdk_42_method_74_code 98 = .ok (.invokestatic 613, 3) := by decide +kernel
theorem rmd_101 : decode jdk_42_method_74_code 101 = .ok (.goto 15, 3) := by decide +kernel
theorem rmd_116 : decode jdk_42_method_74_code 116 = .ok (.ireturn, 1) := by decide +kernel
set_option maxRecDepth 65536 in
set_option maxHeartbeats 40000000 in
theorem con_rm (l : Launch) {Z : State} {a0 : Array Value} {EL : List (String × Nat)} {h0 : Heap} (hw : ∀ d ∈ tables_1, d.before a0 Z = true) (hS : Sets Z) {a b : Addr} {cs : List Int32} (hl : Lat cs) (hn : cs.length = 17 ∨ cs.length = 18 ∨ cs.length = 20 ∨ cs.length = 1) (S : Str Z h0 a cs) (P : Str Z h0 b KT) (O : Ext Z.heap h0) : Con l Z a0 EL false none false (⟨"java/lang/String", "regionMatches", "(ZILjava/lang/String;II)Z"⟩ : MethodName) jdk_42_method_74_code 9 (some .boolean) ({ frames := 2, cells := 0, slots := 0, locals := 40 } : Room) [] [] #[(.ref a), (.int (1 : Int32)), (.int (0 : Int32)), (.ref b), (.int (0 : Int32)), (.int (18 : Int32))] h0 (fun v _ => v = some (.int (if 18 ≤ cs.length ∧ aeB (fun j => eicV (StrChars.lo8 (cs.getD j 0)) (StrChars.lo8 (KT.getD j 0))) = true then 1 else 0))) := by
  obtain ⟨E, hl4, t, F1, F2, A⟩ := S.lat hl
  obtain ⟨E', -, t', F1', F2', A'⟩ := P.lat latKT
  refine Con.enter (plainFor_of_name (by first | (simp [plainName, overriddenIn]; done) | decide +kernel)) O ?_
  intro p e s m below meth c T0 X0
  rw [show entryFrame m #[(.ref a), (.int (1 : Int32)), (.int (0 : Int32)), (.ref b), (.int (0 : Int32)), (.int (18 : Int32))] 9 = (mkF m 0 #[.val (.ref a), .val (.int (1 : Int32)), .val (.int (0 : Int32)), .val (.ref b), .val (.int (0 : Int32)), .val (.int (18 : Int32)), .unset, .unset, .unset] []) from by first | (simp [entryFrame, mkF, argsToLocals, Value.category]; done) | rfl]
  refine Run.via (fun _ => XS.iloadN X0.at X0.ex rfl (X0.de rmd_0) rfl) ?_
  show Run _ _ _ _ _ _ _ _ _ _ _ _ _ T0 (mkF m 1 #[.val (.ref a), .val (.int (1 : Int32)), .val (.int (0 : Int32)), .val (.ref b), .val (.int (0 : Int32)), .val (.int (18 : Int32)), .unset, .unset, .unset] [(.int (1 : Int32))])
  refine Run.via (fun _ => XS.ifYes X0.at X0.ex rfl (pc0 := 1) (pc' := 15) rfl (X0.de rmd_1) rfl ((if0 _ _).trans (feq (by decide : ¬ ((1 : Int32) = (0 : Int32)))).2) (by decide) (by decide)) ?_
  show Run _ _ _ _ _ _ _ _ _ _ _ _ _ T0 (mkF m 15 #[.val (.ref a), .val (.int (1 : Int32)), .val (.int (0 : Int32)), .val (.ref b), .val (.int (0 : Int32)), .val (.int (18 : Int32)), .unset, .unset, .unset] [])
  refine Run.via (fun _ => XS.iload X0.at X0.ex rfl (X0.de rmd_15) rfl) ?_
  show Run _ _ _ _ _ _ _ _ _ _ _ _ _ T0 (mkF m 17 #[.val (.ref a), .val (.int (1 : Int32)), .val (.int (0 : Int32)), .val (.ref b), .val (.int (0 : Int32)), .val (.int (18 : Int32)), .unset, .unset, .unset] [(.int (0 : Int32))])
  refine Run.via (fun _ => XS.ifNo X0.at X0.ex rfl (X0.de rmd_17) rfl ((if0 _ _).trans (flt (by decide : ¬ ((0 : Int32) < (0 : Int32)))).1)) ?_
  show Run _ _ _ _ _ _ _ _ _ _ _ _ _ T0 (mkF m 20 #[.val (.ref a), .val (.int (1 : Int32)), .val (.int (0 : Int32)), .val (.ref b), .val (.int (0 : Int32)), .val (.int (18 : Int32)), .unset, .unset, .unset] [])
  refine Run.via (fun _ => XS.iloadN X0.at X0.ex rfl (X0.de rmd_20) rfl) ?_
  show Run _ _ _ _ _ _ _ _ _ _ _ _ _ T0 (mkF m 21 #[.val (.ref a), .val (.int (1 : Int32)), .val (.int (0 : Int32)), .val (.ref b), .val (.int (0 : Int32)), .val (.int (18 : Int32)), .unset, .unset, .unset] [(.int (0 : Int32))])
  refine Run.via (fun _ => XS.ifNo X0.at X0.ex rfl (X0.de rmd_21) rfl ((if0 _ _).trans (flt (by decide : ¬ ((0 : Int32) < (0 : Int32)))).1)) ?_
  show Run _ _ _ _ _ _ _ _ _ _ _ _ _ T0 (mkF m 24 #[.val (.ref a), .val (.int (1 : Int32)), .val (.int (0 : Int32)), .val (.ref b), .val (.int (0 : Int32)), .val (.int (18 : Int32)), .unset, .unset, .unset] [])
  refine Run.via (fun _ => XS.iloadN X0.at X0.ex rfl (X0.de rmd_24) rfl) ?_
  show Run _ _ _ _ _ _ _ _ _ _ _ _ _ T0 (mkF m 25 #[.val (.ref a), .val (.int (1 : Int32)), .val (.int (0 : Int32)), .val (.ref b), .val (.int (0 : Int32)), .val (.int (18 : Int32)), .unset, .unset, .unset] [(.int (0 : Int32))])
  refine Run.via (fun _ => XS.i2l X0.at X0.ex rfl (X0.de rmd_25) rfl) ?_
  show Run _ _ _ _ _ _ _ _ _ _ _ _ _ T0 (mkF m 26 #[.val (.ref a), .val (.int (1 : Int32)), .val (.int (0 : Int32)), .val (.ref b), .val (.int (0 : Int32)), .val (.int (18 : Int32)), .unset, .unset, .unset] [(.long ((0 : Int32).toInt64))])
  refine Run.via (fun _ => XS.aloadN X0.at X0.ex rfl (X0.de rmd_26) rfl rfl) ?_
  show Run _ _ _ _ _ _ _ _ _ _ _ _ _ T0 (mkF m 27 #[.val (.ref a), .val (.int (1 : Int32)), .val (.int (0 : Int32)), .val (.ref b), .val (.int (0 : Int32)), .val (.int (18 : Int32)), .unset, .unset, .unset] [(.ref a), (.long ((0 : Int32).toInt64))])
  refine Run.slen hw hS X0 (W := 2) S (wd hw 82 rfl) (wd hw 68 rfl) (wd hw 69 rfl) (wd hw 70 rfl) (wd hw 10 rfl) rmd_27 rfl (Nat.le_of_ble_eq_true rfl) (by decide) (by decide) (Nat.le_of_ble_eq_true rfl) (Nat.le_of_ble_eq_true rfl) ?_
  intro T101 X101
  show Run _ _ _ _ _ _ _ _ _ _ _ _ _ T101 (mkF m 30 #[.val (.ref a), .val (.int (1 : Int32)), .val (.int (0 : Int32)), .val (.ref b), .val (.int (0 : Int32)), .val (.int (18 : Int32)), .unset, .unset, .unset] [(.int (Int32.ofNat cs.length)), (.long ((0 : Int32).toInt64))])
  have hlen : cs.length = 17 ∨ cs.length = 18 ∨ cs.length = 20 ∨ cs.length = 1 := hn
  rcases hlen with hlen | hlen | hlen | hlen
  ·
    rw [show Int32.ofNat cs.length = Int32.ofNat 17 from by rw [hlen]]
    show Run _ _ _ _ _ _ _ _ _ _ _ _ _ T101 (mkF m 30 #[.val (.ref a), .val (.int (1 : Int32)), .val (.int (0 : Int32)), .val (.ref b), .val (.int (0 : Int32)), .val (.int (18 : Int32)), .unset, .unset, .unset] [(.int (Int32.ofNat 17)), (.long ((0 : Int32).toInt64))])
    refine Run.via (fun _ => XS.i2l X101.at X101.ex rfl (X101.de rmd_30) rfl) ?_
    show Run _ _ _ _ _ _ _ _ _ _ _ _ _ T101 (mkF m 31 #[.val (.ref a), .val (.int (1 : Int32)), .val (.int (0 : Int32)), .val (.ref b), .val (.int (0 : Int32)), .val (.int (18 : Int32)), .unset, .unset, .unset] [(.long ((Int32.ofNat 17).toInt64)), (.long ((0 : Int32).toInt64))])
    refine Run.via (fun _ => XS.iload X101.at X101.ex rfl (X101.de rmd_31) rfl) ?_
    show Run _ _ _ _ _ _ _ _ _ _ _ _ _ T101 (mkF m 33 #[.val (.ref a), .val (.int (1 : Int32)), .val (.int (0 : Int32)), .val (.ref b), .val (.int (0 : Int32)), .val (.int (18 : Int32)), .unset, .unset, .unset] [(.int (18 : Int32)), (.long ((Int32.ofNat 17).toInt64)), (.long ((0 : Int32).toInt64))])
    refine Run.via (fun _ => XS.i2l X101.at X101.ex rfl (X101.de rmd_33) rfl) ?_
    show Run _ _ _ _ _ _ _ _ _ _ _ _ _ T101 (mkF m 34 #[.val (.ref a), .val (.int (1 : Int32)), .val (.int (0 : Int32)), .val (.ref b), .val (.int (0 : Int32)), .val (.int (18 : Int32)), .unset, .unset, .unset] [(.long ((18 : Int32).toInt64)), (.long ((Int32.ofNat 17).toInt64)), (.long ((0 : Int32).toInt64))])
    refine Run.via (fun _ => XS.lsub X101.at X101.ex rfl (X101.de rmd_34) rfl) ?_
    show Run _ _ _ _ _ _ _ _ _ _ _ _ _ T101 (mkF m 35 #[.val (.ref a), .val (.int (1 : Int32)), .val (.int (0 : Int32)), .val (.ref b), .val (.int (0 : Int32)), .val (.int (18 : Int32)), .unset, .unset, .unset] [(.long (((Int32.ofNat 17).toInt64) - ((18 : Int32).toInt64))), (.long ((0 : Int32).toInt64))])
    refine Run.via (fun _ => XS.lcmp X101.at X101.ex rfl (X101.de rmd_35) rfl) ?_
    show Run _ _ _ _ _ _ _ _ _ _ _ _ _ T101 (mkF m 36 #[.val (.ref a), .val (.int (1 : Int32)), .val (.int (0 : Int32)), .val (.ref b), .val (.int (0 : Int32)), .val (.int (18 : Int32)), .unset, .unset, .unset] [(.int (lcmpW ((0 : Int32).toInt64) (((Int32.ofNat 17).toInt64) - ((18 : Int32).toInt64))))])
    refine Run.via (fun _ => XS.ifYes X101.at X101.ex rfl (pc0 := 36) (pc' := 55) rfl (X101.de rmd_36) rfl ((if0 _ _).trans (tlt (by decide)).2.2.1) (by decide) (by decide)) ?_
    show Run _ _ _ _ _ _ _ _ _ _ _ _ _ T101 (mkF m 55 #[.val (.ref a), .val (.int (1 : Int32)), .val (.int (0 : Int32)), .val (.ref b), .val (.int (0 : Int32)), .val (.int (18 : Int32)), .unset, .unset, .unset] [])
    refine Run.via (fun _ => XS.iconst X101.at X101.ex rfl (X101.de rmd_55)) ?_
    show Run _ _ _ _ _ _ _ _ _ _ _ _ _ T101 (mkF m 56 #[.val (.ref a), .val (.int (1 : Int32)), .val (.int (0 : Int32)), .val (.ref b), .val (.int (0 : Int32)), .val (.int (18 : Int32)), .unset, .unset, .unset] [(.int (0 : Int32))])
    exact Run.retN X101 (t := .boolean) rfl (by simp) rmd_56 (Nat.le_of_ble_eq_true rfl) (Nat.le_of_ble_eq_true rfl) (by rw [if_neg (fun z => absurd z.1 (by omega))]; rfl)
  ·
    rw [show Int32.ofNat cs.length = Int32.ofNat 18 from by rw [hlen]]
    show Run _ _ _ _ _ _ _ _ _ _ _ _ _ T101 (mkF m 30 #[.val (.ref a), .val (.int (1 : Int32)), .val (.int (0 : Int32)), .val (.ref b), .val (.int (0 : Int32)), .val (.int (18 : Int32)), .unset, .unset, .unset] [(.int (Int32.ofNat 18)), (.long ((0 : Int32).toInt64))])
    refine Run.via (fun _ => XS.i2l X101.at X101.ex rfl (X101.de rmd_30) rfl) ?_
    show Run _ _ _ _ _ _ _ _ _ _ _ _ _ T101 (mkF m 31 #[.val (.ref a), .val (.int (1 : Int32)), .val (.int (0 : Int32)), .val (.ref b), .val (.int (0 : Int32)), .val (.int (18 : Int32)), .unset, .unset, .unset] [(.long ((Int32.ofNat 18).toInt64)), (.long ((0 : Int32).toInt64))])
    refine Run.via (fun _ => XS.iload X101.at X101.ex rfl (X101.de rmd_31) rfl) ?_
    show Run _ _ _ _ _ _ _ _ _ _ _ _ _ T101 (mkF m 33 #[.val (.ref a), .val (.int (1 : Int32)), .val (.int (0 : Int32)), .val (.ref b), .val (.int (0 : Int32)), .val (.int (18 : Int32)), .unset, .unset, .unset] [(.int (18 : Int32)), (.long ((Int32.ofNat 18).toInt64)), (.long ((0 : Int32).toInt64))])
    refine Run.via (fun _ => XS.i2l X101.at X101.ex rfl (X101.de rmd_33) rfl) ?_
    show Run _ _ _ _ _ _ _ _ _ _ _ _ _ T101 (mkF m 34 #[.val (.ref a), .val (.int (1 : Int32)), .val (.int (0 : Int32)), .val (.ref b), .val (.int (0 : Int32)), .val (.int (18 : Int32)), .unset, .unset, .unset] [(.long ((18 : Int32).toInt64)), (.long ((Int32.ofNat 18).toInt64)), (.long ((0 : Int32).toInt64))])
    refine Run.via (fun _ => XS.lsub X101.at X101.ex rfl (X101.de rmd_34) rfl) ?_
    show Run _ _ _ _ _ _ _ _ _ _ _ _ _ T101 (mkF m 35 #[.val (.ref a), .val (.int (1 : Int32)), .val (.int (0 : Int32)), .val (.ref b), .val (.int (0 : Int32)), .val (.int (18 : Int32)), .unset, .unset, .unset] [(.long (((Int32.ofNat 18).toInt64) - ((18 : Int32).toInt64))), (.long ((0 : Int32).toInt64))])
    refine Run.via (fun _ => XS.lcmp X101.at X101.ex rfl (X101.de rmd_35) rfl) ?_
    show Run _ _ _ _ _ _ _ _ _ _ _ _ _ T101 (mkF m 36 #[.val (.ref a), .val (.int (1 : Int32)), .val (.int (0 : Int32)), .val (.ref b), .val (.int (0 : Int32)), .val (.int (18 : Int32)), .unset, .unset, .unset] [(.int (lcmpW ((0 : Int32).toInt64) (((Int32.ofNat 18).toInt64) - ((18 : Int32).toInt64))))])
    refine Run.via (fun _ => XS.ifNo X101.at X101.ex rfl (X101.de rmd_36) rfl ((if0 _ _).trans (flt (by decide)).2.2.1)) ?_
    show Run _ _ _ _ _ _ _ _ _ _ _ _ _ T101 (mkF m 39 #[.val (.ref a), .val (.int (1 : Int32)), .val (.int (0 : Int32)), .val (.ref b), .val (.int (0 : Int32)), .val (.int (18 : Int32)), .unset, .unset, .unset] [])
    refine Run.via (fun _ => XS.iload X101.at X101.ex rfl (X101.de rmd_39) rfl) ?_
    show Run _ _ _ _ _ _ _ _ _ _ _ _ _ T101 (mkF m 41 #[.val (.ref a), .val (.int (1 : Int32)), .val (.int (0 : Int32)), .val (.ref b), .val (.int (0 : Int32)), .val (.int (18 : Int32)), .unset, .unset, .unset] [(.int (0 : Int32))])
    refine Run.via (fun _ => XS.i2l X101.at X101.ex rfl (X101.de rmd_41) rfl) ?_
    show Run _ _ _ _ _ _ _ _ _ _ _ _ _ T101 (mkF m 42 #[.val (.ref a), .val (.int (1 : Int32)), .val (.int (0 : Int32)), .val (.ref b), .val (.int (0 : Int32)), .val (.int (18 : Int32)), .unset, .unset, .unset] [(.long ((0 : Int32).toInt64))])
    refine Run.via (fun _ => XS.aloadN X101.at X101.ex rfl (X101.de rmd_42) rfl rfl) ?_
    show Run _ _ _ _ _ _ _ _ _ _ _ _ _ T101 (mkF m 43 #[.val (.ref a), .val (.int (1 : Int32)), .val (.int (0 : Int32)), .val (.ref b), .val (.int (0 : Int32)), .val (.int (18 : Int32)), .unset, .unset, .unset] [(.ref b), (.long ((0 : Int32).toInt64))])
    refine Run.slen hw hS X101 (W := 2) P (wd hw 82 rfl) (wd hw 68 rfl) (wd hw 69 rfl) (wd hw 70 rfl) (wd hw 10 rfl) rmd_43 rfl (Nat.le_of_ble_eq_true rfl) (by decide) (by decide) (Nat.le_of_ble_eq_true rfl) (Nat.le_of_ble_eq_true rfl) ?_
    intro T102 X102
    show Run _ _ _ _ _ _ _ _ _ _ _ _ _ T102 (mkF m 46 #[.val (.ref a), .val (.int (1 : Int32)), .val (.int (0 : Int32)), .val (.ref b), .val (.int (0 : Int32)), .val (.int (18 : Int32)), .unset, .unset, .unset] [(.int (18 : Int32)), (.long ((0 : Int32).toInt64))])
    refine Run.via (fun _ => XS.i2l X102.at X102.ex rfl (X102.de rmd_46) rfl) ?_
    show Run _ _ _ _ _ _ _ _ _ _ _ _ _ T102 (mkF m 47 #[.val (.ref a), .val (.int (1 : Int32)), .val (.int (0 : Int32)), .val (.ref b), .val (.int (0 : Int32)), .val (.int (18 : Int32)), .unset, .unset, .unset] [(.long ((18 : Int32).toInt64)), (.long ((0 : Int32).toInt64))])
    refine Run.via (fun _ => XS.iload X102.at X102.ex rfl (X102.de rmd_47) rfl) ?_
    show Run _ _ _ _ _ _ _ _ _ _ _ _ _ T102 (mkF m 49 #[.val (.ref a), .val (.int (1 : Int32)), .val (.int (0 : Int32)), .val (.ref b), .val (.int (0 : Int32)), .val (.int (18 : Int32)), .unset, .unset, .unset] [(.int (18 : Int32)), (.long ((18 : Int32).toInt64)), (.long ((0 : Int32).toInt64))])
    refine Run.via (fun _ => XS.i2l X102.at X102.ex rfl (X102.de rmd_49) rfl) ?_
    show Run _ _ _ _ _ _ _ _ _ _ _ _ _ T102 (mkF m 50 #[.val (.ref a), .val (.int (1 : Int32)), .val (.int (0 : Int32)), .val (.ref b), .val (.int (0 : Int32)), .val (.int (18 : Int32)), .unset, .unset, .unset] [(.long ((18 : Int32).toInt64)), (.long ((18 : Int32).toInt64)), (.long ((0 : Int32).toInt64))])
    refine Run.via (fun _ => XS.lsub X102.at X102.ex rfl (X102.de rmd_50) rfl) ?_
    show Run _ _ _ _ _ _ _ _ _ _ _ _ _ T102 (mkF m 51 #[.val (.ref a), .val (.int (1 : Int32)), .val (.int (0 : Int32)), .val (.ref b), .val (.int (0 : Int32)), .val (.int (18 : Int32)), .unset, .unset, .unset] [(.long (((18 : Int32).toInt64) - ((18 : Int32).toInt64))), (.long ((0 : Int32).toInt64))])
    refine Run.via (fun _ => XS.lcmp X102.at X102.ex rfl (X102.de rmd_51) rfl) ?_
    show Run _ _ _ _ _ _ _ _ _ _ _ _ _ T102 (mkF m 52 #[.val (.ref a), .val (.int (1 : Int32)), .val (.int (0 : Int32)), .val (.ref b), .val (.int (0 : Int32)), .val (.int (18 : Int32)), .unset, .unset, .unset] [(.int (lcmpW ((0 : Int32).toInt64) (((18 : Int32).toInt64) - ((18 : Int32).toInt64))))])
    refine Run.via (fun _ => XS.ifYes X102.at X102.ex rfl (pc0 := 52) (pc' := 57) rfl (X102.de rmd_52) rfl ((if0 _ _).trans (flt (by decide)).2.2.2) (by decide) (by decide)) ?_
    show Run _ _ _ _ _ _ _ _ _ _ _ _ _ T102 (mkF m 57 #[.val (.ref a), .val (.int (1 : Int32)), .val (.int (0 : Int32)), .val (.ref b), .val (.int (0 : Int32)), .val (.int (18 : Int32)), .unset, .unset, .unset] [])
    refine Run.via (fun _ => XS.aloadN X102.at X102.ex rfl (X102.de rmd_57) rfl rfl) ?_
    show Run _ _ _ _ _ _ _ _ _ _ _ _ _ T102 (mkF m 58 #[.val (.ref a), .val (.int (1 : Int32)), .val (.int (0 : Int32)), .val (.ref b), .val (.int (0 : Int32)), .val (.int (18 : Int32)), .unset, .unset, .unset] [(.ref a)])
    refine Run.getf X102 (wd hw 28 rfl) Via.refl F1 rmd_58 ?_
    intro T103 X103
    show Run _ _ _ _ _ _ _ _ _ _ _ _ _ T103 (mkF m 61 #[.val (.ref a), .val (.int (1 : Int32)), .val (.int (0 : Int32)), .val (.ref b), .val (.int (0 : Int32)), .val (.int (18 : Int32)), .unset, .unset, .unset] [(.ref t)])
    refine Run.via (fun _ => XS.astore X103.at X103.ex rfl (X103.de rmd_61) rfl rfl (l' := #[.val (.ref a), .val (.int (1 : Int32)), .val (.int (0 : Int32)), .val (.ref b), .val (.int (0 : Int32)), .val (.int (18 : Int32)), .val (.ref t), .unset, .unset]) rfl) ?_
    show Run _ _ _ _ _ _ _ _ _ _ _ _ _ T103 (mkF m 63 #[.val (.ref a), .val (.int (1 : Int32)), .val (.int (0 : Int32)), .val (.ref b), .val (.int (0 : Int32)), .val (.int (18 : Int32)), .val (.ref t), .unset, .unset] [])
    refine Run.via (fun _ => XS.aloadN X103.at X103.ex rfl (X103.de rmd_63) rfl rfl) ?_
    show Run _ _ _ _ _ _ _ _ _ _ _ _ _ T103 (mkF m 64 #[.val (.ref a), .val (.int (1 : Int32)), .val (.int (0 : Int32)), .val (.ref b), .val (.int (0 : Int32)), .val (.int (18 : Int32)), .val (.ref t), .unset, .unset] [(.ref b)])
    refine Run.getf X103 (wd hw 28 rfl) Via.refl F1' rmd_64 ?_
    intro T104 X104
    show Run _ _ _ _ _ _ _ _ _ _ _ _ _ T104 (mkF m 67 #[.val (.ref a), .val (.int (1 : Int32)), .val (.int (0 : Int32)), .val (.ref b), .val (.int (0 : Int32)), .val (.int (18 : Int32)), .val (.ref t), .unset, .unset] [(.ref t')])
    refine Run.via (fun _ => XS.astore X104.at X104.ex rfl (X104.de rmd_67) rfl rfl (l' := #[.val (.ref a), .val (.int (1 : Int32)), .val (.int (0 : Int32)), .val (.ref b), .val (.int (0 : Int32)), .val (.int (18 : Int32)), .val (.ref t), .val (.ref t'), .unset]) rfl) ?_
    show Run _ _ _ _ _ _ _ _ _ _ _ _ _ T104 (mkF m 69 #[.val (.ref a), .val (.int (1 : Int32)), .val (.int (0 : Int32)), .val (.ref b), .val (.int (0 : Int32)), .val (.int (18 : Int32)), .val (.ref t), .val (.ref t'), .unset] [])
    refine Run.via (fun _ => XS.aloadN X104.at X104.ex rfl (X104.de rmd_69) rfl rfl) ?_
    show Run _ _ _ _ _ _ _ _ _ _ _ _ _ T104 (mkF m 70 #[.val (.ref a), .val (.int (1 : Int32)), .val (.int (0 : Int32)), .val (.ref b), .val (.int (0 : Int32)), .val (.int (18 : Int32)), .val (.ref t), .val (.ref t'), .unset] [(.ref a)])
    refine Run.callV X104 (y := (⟨"java/lang/String", "coder", "()B"⟩ : MethodName)) (W := 0) (con_cd l hw hS F2 O) E (wd hw 72 rfl) (wd hw 73 rfl) (wd hw 74 rfl) (wd hw 75 rfl) (wd hw 9 rfl) (wd hw 76 rfl) (by decide) pd___B rfl (argsL := []) (rest := []) rfl (Nat.le_of_ble_eq_true rfl) rfl rmd_70 (by decide) (by decide) (Nat.le_of_ble_eq_true rfl) (Nat.le_of_ble_eq_true rfl) (nofun) (nofun) ?_
    intro v105 T105 h105 L105 q105 X105 XF105 XK105 K105
    obtain ⟨rfl, rfl⟩ := q105
    show Run _ _ _ _ _ _ _ _ _ _ _ _ _ T105 (mkF m 73 #[.val (.ref a), .val (.int (1 : Int32)), .val (.int (0 : Int32)), .val (.ref b), .val (.int (0 : Int32)), .val (.int (18 : Int32)), .val (.ref t), .val (.ref t'), .unset] [(.int (0 : Int32))])
    refine Run.via (fun _ => XS.istore X105.at X105.ex rfl (X105.de rmd_73) rfl (l' := #[.val (.ref a), .val (.int (1 : Int32)), .val (.int (0 : Int32)), .val (.ref b), .val (.int (0 : Int32)), .val (.int (18 : Int32)), .val (.ref t), .val (.ref t'), .val (.int (0 : Int32))]) rfl) ?_
    show Run _ _ _ _ _ _ _ _ _ _ _ _ _ T105 (mkF m 75 #[.val (.ref a), .val (.int (1 : Int32)), .val (.int (0 : Int32)), .val (.ref b), .val (.int (0 : Int32)), .val (.int (18 : Int32)), .val (.ref t), .val (.ref t'), .val (.int (0 : Int32))] [])
    refine Run.via (fun _ => XS.iload X105.at X105.ex rfl (X105.de rmd_75) rfl) ?_
    show Run _ _ _ _ _ _ _ _ _ _ _ _ _ T105 (mkF m 77 #[.val (.ref a), .val (.int (1 : Int32)), .val (.int (0 : Int32)), .val (.ref b), .val (.int (0 : Int32)), .val (.int (18 : Int32)), .val (.ref t), .val (.ref t'), .val (.int (0 : Int32))] [(.int (0 : Int32))])
    refine Run.via (fun _ => XS.aloadN X105.at X105.ex rfl (X105.de rmd_77) rfl rfl) ?_
    show Run _ _ _ _ _ _ _ _ _ _ _ _ _ T105 (mkF m 78 #[.val (.ref a), .val (.int (1 : Int32)), .val (.int (0 : Int32)), .val (.ref b), .val (.int (0 : Int32)), .val (.int (18 : Int32)), .val (.ref t), .val (.ref t'), .val (.int (0 : Int32))] [(.ref b), (.int (0 : Int32))])
    refine Run.callV X105 (y := (⟨"java/lang/String", "coder", "()B"⟩ : MethodName)) (W := 1) (con_cd l hw hS F2' O) E' (wd hw 72 rfl) (wd hw 73 rfl) (wd hw 74 rfl) (wd hw 75 rfl) (wd hw 9 rfl) (wd hw 76 rfl) (by decide) pd___B rfl (argsL := []) (rest := [(.int (0 : Int32))]) rfl (Nat.le_of_ble_eq_true rfl) rfl rmd_78 (by decide) (by decide) (Nat.le_of_ble_eq_true rfl) (Nat.le_of_ble_eq_true rfl) (nofun) (nofun) ?_
    intro v106 T106 h106 L106 q106 X106 XF106 XK106 K106
    obtain ⟨rfl, rfl⟩ := q106
    show Run _ _ _ _ _ _ _ _ _ _ _ _ _ T106 (mkF m 81 #[.val (.ref a), .val (.int (1 : Int32)), .val (.int (0 : Int32)), .val (.ref b), .val (.int (0 : Int32)), .val (.int (18 : Int32)), .val (.ref t), .val (.ref t'), .val (.int (0 : Int32))] [(.int (0 : Int32)), (.int (0 : Int32))])
    refine Run.via (fun _ => XS.icmpNo X106.at X106.ex rfl (X106.de rmd_81) rfl (teq (by decide : ((0 : Int32) = (0 : Int32)))).2) ?_
    show Run _ _ _ _ _ _ _ _ _ _ _ _ _ T106 (mkF m 84 #[.val (.ref a), .val (.int (1 : Int32)), .val (.int (0 : Int32)), .val (.ref b), .val (.int (0 : Int32)), .val (.int (18 : Int32)), .val (.ref t), .val (.ref t'), .val (.int (0 : Int32))] [])
    refine Run.via (fun _ => XS.iload X106.at X106.ex rfl (X106.de rmd_84) rfl) ?_
    show Run _ _ _ _ _ _ _ _ _ _ _ _ _ T106 (mkF m 86 #[.val (.ref a), .val (.int (1 : Int32)), .val (.int (0 : Int32)), .val (.ref b), .val (.int (0 : Int32)), .val (.int (18 : Int32)), .val (.ref t), .val (.ref t'), .val (.int (0 : Int32))] [(.int (0 : Int32))])
    refine Run.via (fun _ => XS.ifNo X106.at X106.ex rfl (X106.de rmd_86) rfl ((if0 _ _).trans (teq (by decide : ((0 : Int32) = (0 : Int32)))).2)) ?_
    show Run _ _ _ _ _ _ _ _ _ _ _ _ _ T106 (mkF m 89 #[.val (.ref a), .val (.int (1 : Int32)), .val (.int (0 : Int32)), .val (.ref b), .val (.int (0 : Int32)), .val (.int (18 : Int32)), .val (.ref t), .val (.ref t'), .val (.int (0 : Int32))] [])
    refine Run.via (fun _ => XS.aload X106.at X106.ex rfl (X106.de rmd_89) rfl rfl) ?_
    show Run _ _ _ _ _ _ _ _ _ _ _ _ _ T106 (mkF m 91 #[.val (.ref a), .val (.int (1 : Int32)), .val (.int (0 : Int32)), .val (.ref b), .val (.int (0 : Int32)), .val (.int (18 : Int32)), .val (.ref t), .val (.ref t'), .val (.int (0 : Int32))] [(.ref t)])
    refine Run.via (fun _ => XS.iloadN X106.at X106.ex rfl (X106.de rmd_91) rfl) ?_
    show Run _ _ _ _ _ _ _ _ _ _ _ _ _ T106 (mkF m 92 #[.val (.ref a), .val (.int (1 : Int32)), .val (.int (0 : Int32)), .val (.ref b), .val (.int (0 : Int32)), .val (.int (18 : Int32)), .val (.ref t), .val (.ref t'), .val (.int (0 : Int32))] [(.int (0 : Int32)), (.ref t)])
    refine Run.via (fun _ => XS.aload X106.at X106.ex rfl (X106.de rmd_92) rfl rfl) ?_
    show Run _ _ _ _ _ _ _ _ _ _ _ _ _ T106 (mkF m 94 #[.val (.ref a), .val (.int (1 : Int32)), .val (.int (0 : Int32)), .val (.ref b), .val (.int (0 : Int32)), .val (.int (18 : Int32)), .val (.ref t), .val (.ref t'), .val (.int (0 : Int32))] [(.ref t'), (.int (0 : Int32)), (.ref t)])
    refine Run.via (fun _ => XS.iload X106.at X106.ex rfl (X106.de rmd_94) rfl) ?_
    show Run _ _ _ _ _ _ _ _ _ _ _ _ _ T106 (mkF m 96 #[.val (.ref a), .val (.int (1 : Int32)), .val (.int (0 : Int32)), .val (.ref b), .val (.int (0 : Int32)), .val (.int (18 : Int32)), .val (.ref t), .val (.ref t'), .val (.int (0 : Int32))] [(.int (0 : Int32)), (.ref t'), (.int (0 : Int32)), (.ref t)])
    refine Run.via (fun _ => XS.iload X106.at X106.ex rfl (X106.de rmd_96) rfl) ?_
    show Run _ _ _ _ _ _ _ _ _ _ _ _ _ T106 (mkF m 98 #[.val (.ref a), .val (.int (1 : Int32)), .val (.int (0 : Int32)), .val (.ref b), .val (.int (0 : Int32)), .val (.int (18 : Int32)), .val (.ref t), .val (.ref t'), .val (.int (0 : Int32))] [(.int (18 : Int32)), (.int (0 : Int32)), (.ref t'), (.int (0 : Int32)), (.ref t)])
    refine Run.callS X106 (y := (⟨"java/lang/StringLatin1", "regionMatchesCI", "([BI[BII)Z"⟩ : MethodName)) (W := 0) (con_rc l hw A A' (by simp; omega) (by decide) O) (wd hw 83 rfl) (wd hw 84 rfl) (wd hw 31 rfl) (wd hw 85 rfl) (by decide) pd___BI_BII_Z rfl (argsL := [(.ref t), (.int (0 : Int32)), (.ref t'), (.int (0 : Int32)), (.int (18 : Int32))]) (rest := []) rfl (Nat.le_of_ble_eq_true rfl) rfl rmd_98 (by decide) (by decide) (Nat.le_of_ble_eq_true rfl) (Nat.le_of_ble_eq_true rfl) (nofun) (nofun) ?_
    intro v107 T107 h107 L107 q107 X107 XF107 XK107 K107
    obtain rfl := q107
    show Run _ _ _ _ _ _ _ _ _ _ _ _ _ T107 (mkF m 101 #[.val (.ref a), .val (.int (1 : Int32)), .val (.int (0 : Int32)), .val (.ref b), .val (.int (0 : Int32)), .val (.int (18 : Int32)), .val (.ref t), .val (.ref t'), .val (.int (0 : Int32))] [(.int (if aeB (fun j => eicV ((cs.map StrChars.lo8).getD j 0) ((KT.map StrChars.lo8).getD j 0)) = true then 1 else 0 : Int32))])
    refine Run.via (fun _ => XS.goto X107.at X107.ex rfl (pc0 := 101) (pc' := 116) rfl (X107.de rmd_101) (by decide) (by decide)) ?_
    show Run _ _ _ _ _ _ _ _ _ _ _ _ _ T107 (mkF m 116 #[.val (.ref a), .val (.int (1 : Int32)), .val (.int (0 : Int32)), .val (.ref b), .val (.int (0 : Int32)), .val (.int (18 : Int32)), .val (.ref t), .val (.ref t'), .val (.int (0 : Int32))] [(.int (if aeB (fun j => eicV ((cs.map StrChars.lo8).getD j 0) ((KT.map StrChars.lo8).getD j 0)) = true then 1 else 0 : Int32))])
    exact Run.retN X107 (t := .boolean) rfl (by simp) rmd_116 (Nat.le_of_ble_eq_true rfl) (Nat.le_of_ble_eq_true rfl) (by rw [nar_b, rmV (by omega)])
  ·
    rw [show Int32.ofNat cs.length = Int32.ofNat 20 from by rw [hlen]]
    show Run _ _ _ _ _ _ _ _ _ _ _ _ _ T101 (mkF m 30 #[.val (.ref a), .val (.int (1 : Int32)), .val (.int (0 : Int32)), .val (.ref b), .val (.int (0 : Int32)), .val (.int (18 : Int32)), .unset, .unset, .unset] [(.int (Int32.ofNat 20)), (.long ((0 : Int32).toInt64))])
    refine Run.via (fun _ => XS.i2l X101.at X101.ex rfl (X101.de rmd_30) rfl) ?_
    show Run _ _ _ _ _ _ _ _ _ _ _ _ _ T101 (mkF m 31 #[.val (.ref a), .val (.int (1 : Int32)), .val (.int (0 : Int32)), .val (.ref b), .val (.int (0 : Int32)), .val (.int (18 : Int32)), .unset, .unset, .unset] [(.long ((Int32.ofNat 20).toInt64)), (.long ((0 : Int32).toInt64))])
    refine Run.via (fun _ => XS.iload X101.at X101.ex rfl (X101.de rmd_31) rfl) ?_
    show Run _ _ _ _ _ _ _ _ _ _ _ _ _ T101 (mkF m 33 #[.val (.ref a), .val (.int (1 : Int32)), .val (.int (0 : Int32)), .val (.ref b), .val (.int (0 : Int32)), .val (.int (18 : Int32)), .unset, .unset, .unset] [(.int (18 : Int32)), (.long ((Int32.ofNat 20).toInt64)), (.long ((0 : Int32).toInt64))])
    refine Run.via (fun _ => XS.i2l X101.at X101.ex rfl (X101.de rmd_33) rfl) ?_
    show Run _ _ _ _ _ _ _ _ _ _ _ _ _ T101 (mkF m 34 #[.val (.ref a), .val (.int (1 : Int32)), .val (.int (0 : Int32)), .val (.ref b), .val (.int (0 : Int32)), .val (.int (18 : Int32)), .unset, .unset, .unset] [(.long ((18 : Int32).toInt64)), (.long ((Int32.ofNat 20).toInt64)), (.long ((0 : Int32).toInt64))])
    refine Run.via (fun _ => XS.lsub X101.at X101.ex rfl (X101.de rmd_34) rfl) ?_
    show Run _ _ _ _ _ _ _ _ _ _ _ _ _ T101 (mkF m 35 #[.val (.ref a), .val (.int (1 : Int32)), .val (.int (0 : Int32)), .val (.ref b), .val (.int (0 : Int32)), .val (.int (18 : Int32)), .unset, .unset, .unset] [(.long (((Int32.ofNat 20).toInt64) - ((18 : Int32).toInt64))), (.long ((0 : Int32).toInt64))])
    refine Run.via (fun _ => XS.lcmp X101.at X101.ex rfl (X101.de rmd_35) rfl) ?_
    show Run _ _ _ _ _ _ _ _ _ _ _ _ _ T101 (mkF m 36 #[.val (.ref a), .val (.int (1 : Int32)), .val (.int (0 : Int32)), .val (.ref b), .val (.int (0 : Int32)), .val (.int (18 : Int32)), .unset, .unset, .unset] [(.int (lcmpW ((0 : Int32).toInt64) (((Int32.ofNat 20).toInt64) - ((18 : Int32).toInt64))))])
    refine Run.via (fun _ => XS.ifNo X101.at X101.ex rfl (X101.de rmd_36) rfl ((if0 _ _).trans (flt (by decide)).2.2.1)) ?_
    show Run _ _ _ _ _ _ _ _ _ _ _ _ _ T101 (mkF m 39 #[.val (.ref a), .val (.int (1 : Int32)), .val (.int (0 : Int32)), .val (.ref b), .val (.int (0 : Int32)), .val (.int (18 : Int32)), .unset, .unset, .unset] [])
    refine Run.via (fun _ => XS.iload X101.at X101.ex rfl (X101.de rmd_39) rfl) ?_
    show Run _ _ _ _ _ _ _ _ _ _ _ _ _ T101 (mkF m 41 #[.val (.ref a), .val (.int (1 : Int32)), .val (.int (0 : Int32)), .val (.ref b), .val (.int (0 : Int32)), .val (.int (18 : Int32)), .unset, .unset, .unset] [(.int (0 : Int32))])
    refine Run.via (fun _ => XS.i2l X101.at X101.ex rfl (X101.de rmd_41) rfl) ?_
    show Run _ _ _ _ _ _ _ _ _ _ _ _ _ T101 (mkF m 42 #[.val (.ref a), .val (.int (1 : Int32)), .val (.int (0 : Int32)), .val (.ref b), .val (.int (0 : Int32)), .val (.int (18 : Int32)), .unset, .unset, .unset] [(.long ((0 : Int32).toInt64))])
    refine Run.via (fun _ => XS.aloadN X101.at X101.ex rfl (X101.de rmd_42) rfl rfl) ?_
    show Run _ _ _ _ _ _ _ _ _ _ _ _ _ T101 (mkF m 43 #[.val (.ref a), .val (.int (1 : Int32)), .val (.int (0 : Int32)), .val (.ref b), .val (.int (0 : Int32)), .val (.int (18 : Int32)), .unset, .unset, .unset] [(.ref b), (.long ((0 : Int32).toInt64))])
    refine Run.slen hw hS X101 (W := 2) P (wd hw 82 rfl) (wd hw 68 rfl) (wd hw 69 rfl) (wd hw 70 rfl) (wd hw 10 rfl) rmd_43 rfl (Nat.le_of_ble_eq_true rfl) (by decide) (by decide) (Nat.le_of_ble_eq_true rfl) (Nat.le_of_ble_eq_true rfl) ?_
    intro T108 X108
    show Run _ _ _ _ _ _ _ _ _ _ _ _ _ T108 (mkF m 46 #[.val (.ref a), .val (.int (1 : Int32)), .val (.int (0 : Int32)), .val (.ref b), .val (.int (0 : Int32)), .val (.int (18 : Int32)), .unset, .unset, .unset] [(.int (18 : Int32)), (.long ((0 : Int32).toInt64))])
    refine Run.via (fun _ => XS.i2l X108.at X108.ex rfl (X108.de rmd_46) rfl) ?_
    show Run _ _ _ _ _ _ _ _ _ _ _ _ _ T108 (mkF m 47 #[.val (.ref a), .val (.int (1 : Int32)), .val (.int (0 : Int32)), .val (.ref b), .val (.int (0 : Int32)), .val (.int (18 : Int32)), .unset, .unset, .unset] [(.long ((18 : Int32).toInt64)), (.long ((0 : Int32).toInt64))])
    refine Run.via (fun _ => XS.iload X108.at X108.ex rfl (X108.de rmd_47) rfl) ?_
    show Run _ _ _ _ _ _ _ _ _ _ _ _ _ T108 (mkF m 49 #[.val (.ref a), .val (.int (1 : Int32)), .val (.int (0 : Int32)), .val (.ref b), .val (.int (0 : Int32)), .val (.int (18 : Int32)), .unset, .unset, .unset] [(.int (18 : Int32)), (.long ((18 : Int32).toInt64)), (.long ((0 : Int32).toInt64))])
    refine Run.via (fun _ => XS.i2l X108.at X108.ex rfl (X108.de rmd_49) rfl) ?_
    show Run _ _ _ _ _ _ _ _ _ _ _ _ _ T108 (mkF m 50 #[.val (.ref a), .val (.int (1 : Int32)), .val (.int (0 : Int32)), .val (.ref b), .val (.int (0 : Int32)), .val (.int (18 : Int32)), .unset, .unset, .unset] [(.long ((18 : Int32).toInt64)), (.long ((18 : Int32).toInt64)), (.long ((0 : Int32).toInt64))])
    refine Run.via (fun _ => XS.lsub X108.at X108.ex rfl (X108.de rmd_50) rfl) ?_
    show Run _ _ _ _ _ _ _ _ _ _ _ _ _ T108 (mkF m 51 #[.val (.ref a), .val (.int (1 : Int32)), .val (.int (0 : Int32)), .val (.ref b), .val (.int (0 : Int32)), .val (.int (18 : Int32)), .unset, .unset, .unset] [(.long (((18 : Int32).toInt64) - ((18 : Int32).toInt64))), (.long ((0 : Int32).toInt64))])
    refine Run.via (fun _ => XS.lcmp X108.at X108.ex rfl (X108.de rmd_51) rfl) ?_
    show Run _ _ _ _ _ _ _ _ _ _ _ _ _ T108 (mkF m 52 #[.val (.ref a), .val (.int (1 : Int32)), .val (.int (0 : Int32)), .val (.ref b), .val (.int (0 : Int32)), .val (.int (18 : Int32)), .unset, .unset, .unset] [(.int (lcmpW ((0 : Int32).toInt64) (((18 : Int32).toInt64) - ((18 : Int32).toInt64))))])
    refine Run.via (fun _ => XS.ifYes X108.at X108.ex rfl (pc0 := 52) (pc' := 57) rfl (X108.de rmd_52) rfl ((if0 _ _).trans (flt (by decide)).2.2.2) (by decide) (by decide)) ?_
    show Run _ _ _ _ _ _ _ _ _ _ _ _ _ T108 (mkF m 57 #[.val (.ref a), .val (.int (1 : Int32)), .val (.int (0 : Int32)), .val (.ref b), .val (.int (0 : Int32)), .val (.int (18 : Int32)), .unset, .unset, .unset] [])
    refine Run.via (fun _ => XS.aloadN X108.at X108.ex rfl (X108.de rmd_57) rfl rfl) ?_
    show Run _ _ _ _ _ _ _ _ _ _ _ _ _ T108 (mkF m 58 #[.val (.ref a), .val (.int (1 : Int32)), .val (.int (0 : Int32)), .val (.ref b), .val (.int (0 : Int32)), .val (.int (18 : Int32)), .unset, .unset, .unset] [(.ref a)])
    refine Run.getf X108 (wd hw 28 rfl) Via.refl F1 rmd_58 ?_
    intro T109 X109
    show Run _ _ _ _ _ _ _ _ _ _ _ _ _ T109 (mkF m 61 #[.val (.ref a), .val (.int (1 : Int32)), .val (.int (0 : Int32)), .val (.ref b), .val (.int (0 : Int32)), .val (.int (18 : Int32)), .unset, .unset, .unset] [(.ref t)])
    refine Run.via (fun _ => XS.astore X109.at X109.ex rfl (X109.de rmd_61) rfl rfl (l' := #[.val (.ref a), .val (.int (1 : Int32)), .val (.int (0 : Int32)), .val (.ref b), .val (.int (0 : Int32)), .val (.int (18 : Int32)), .val (.ref t), .unset, .unset]) rfl) ?_
    show Run _ _ _ _ _ _ _ _ _ _ _ _ _ T109 (mkF m 63 #[.val (.ref a), .val (.int (1 : Int32)), .val (.int (0 : Int32)), .val (.ref b), .val (.int (0 : Int32)), .val (.int (18 : Int32)), .val (.ref t), .unset, .unset] [])
    refine Run.via (fun _ => XS.aloadN X109.at X109.ex rfl (X109.de rmd_63) rfl rfl) ?_
    show Run _ _ _ _ _ _ _ _ _ _ _ _ _ T109 (mkF m 64 #[.val (.ref a), .val (.int (1 : Int32)), .val (.int (0 : Int32)), .val (.ref b), .val (.int (0 : Int32)), .val (.int (18 : Int32)), .val (.ref t), .unset, .unset] [(.ref b)])
    refine Run.getf X109 (wd hw 28 rfl) Via.refl F1' rmd_64 ?_
    intro T110 X110
    show Run _ _ _ _ _ _ _ _ _ _ _ _ _ T110 (mkF m 67 #[.val (.ref a), .val (.int (1 : Int32)), .val (.int (0 : Int32)), .val (.ref b), .val (.int (0 : Int32)), .val (.int (18 : Int32)), .val (.ref t), .unset, .unset] [(.ref t')])
    refine Run.via (fun _ => XS.astore X110.at X110.ex rfl (X110.de rmd_67) rfl rfl (l' := #[.val (.ref a), .val (.int (1 : Int32)), .val (.int (0 : Int32)), .val (.ref b), .val (.int (0 : Int32)), .val (.int (18 : Int32)), .val (.ref t), .val (.ref t'), .unset]) rfl) ?_
    show Run _ _ _ _ _ _ _ _ _ _ _ _ _ T110 (mkF m 69 #[.val (.ref a), .val (.int (1 : Int32)), .val (.int (0 : Int32)), .val (.ref b), .val (.int (0 : Int32)), .val (.int (18 : Int32)), .val (.ref t), .val (.ref t'), .unset] [])
    refine Run.via (fun _ => XS.aloadN X110.at X110.ex rfl (X110.de rmd_69) rfl rfl) ?_
    show Run _ _ _ _ _ _ _ _ _ _ _ _ _ T110 (mkF m 70 #[.val (.ref a), .val (.int (1 : Int32)), .val (.int (0 : Int32)), .val (.ref b), .val (.int (0 : Int32)), .val (.int (18 : Int32)), .val (.ref t), .val (.ref t'), .unset] [(.ref a)])
    refine Run.callV X110 (y := (⟨"java/lang/String", "coder", "()B"⟩ : MethodName)) (W := 0) (con_cd l hw hS F2 O) E (wd hw 72 rfl) (wd hw 73 rfl) (wd hw 74 rfl) (wd hw 75 rfl) (wd hw 9 rfl) (wd hw 76 rfl) (by decide) pd___B rfl (argsL := []) (rest := []) rfl (Nat.le_of_ble_eq_true rfl) rfl rmd_70 (by decide) (by decide) (Nat.le_of_ble_eq_true rfl) (Nat.le_of_ble_eq_true rfl) (nofun) (nofun) ?_
    intro v111 T111 h111 L111 q111 X111 XF111 XK111 K111
    obtain ⟨rfl, rfl⟩ := q111
    show Run _ _ _ _ _ _ _ _ _ _ _ _ _ T111 (mkF m 73 #[.val (.ref a), .val (.int (1 : Int32)), .val (.int (0 : Int32)), .val (.ref b), .val (.int (0 : Int32)), .val (.int (18 : Int32)), .val (.ref t), .val (.ref t'), .unset] [(.int (0 : Int32))])
    refine Run.via (fun _ => XS.istore X111.at X111.ex rfl (X111.de rmd_73) rfl (l' := #[.val (.ref a), .val (.int (1 : Int32)), .val (.int (0 : Int32)), .val (.ref b), .val (.int (0 : Int32)), .val (.int (18 : Int32)), .val (.ref t), .val (.ref t'), .val (.int (0 : Int32))]) rfl) ?_
    show Run _ _ _ _ _ _ _ _ _ _ _ _ _ T111 (mkF m 75 #[.val (.ref a), .val (.int (1 : Int32)), .val (.int (0 : Int32)), .val (.ref b), .val (.int (0 : Int32)), .val (.int (18 : Int32)), .val (.ref t), .val (.ref t'), .val (.int (0 : Int32))] [])
    refine Run.via (fun _ => XS.iload X111.at X111.ex rfl (X111.de rmd_75) rfl) ?_
    show Run _ _ _ _ _ _ _ _ _ _ _ _ _ T111 (mkF m 77 #[.val (.ref a), .val (.int (1 : Int32)), .val (.int (0 : Int32)), .val (.ref b), .val (.int (0 : Int32)), .val (.int (18 : Int32)), .val (.ref t), .val (.ref t'), .val (.int (0 : Int32))] [(.int (0 : Int32))])
    refine Run.via (fun _ => XS.aloadN X111.at X111.ex rfl (X111.de rmd_77) rfl rfl) ?_
    show Run _ _ _ _ _ _ _ _ _ _ _ _ _ T111 (mkF m 78 #[.val (.ref a), .val (.int (1 : Int32)), .val (.int (0 : Int32)), .val (.ref b), .val (.int (0 : Int32)), .val (.int (18 : Int32)), .val (.ref t), .val (.ref t'), .val (.int (0 : Int32))] [(.ref b), (.int (0 : Int32))])
    refine Run.callV X111 (y := (⟨"java/lang/String", "coder", "()B"⟩ : MethodName)) (W := 1) (con_cd l hw hS F2' O) E' (wd hw 72 rfl) (wd hw 73 rfl) (wd hw 74 rfl) (wd hw 75 rfl) (wd hw 9 rfl) (wd hw 76 rfl) (by decide) pd___B rfl (argsL := []) (rest := [(.int (0 : Int32))]) rfl (Nat.le_of_ble_eq_true rfl) rfl rmd_78 (by decide) (by decide) (Nat.le_of_ble_eq_true rfl) (Nat.le_of_ble_eq_true rfl) (nofun) (nofun) ?_
    intro v112 T112 h112 L112 q112 X112 XF112 XK112 K112
    obtain ⟨rfl, rfl⟩ := q112
    show Run _ _ _ _ _ _ _ _ _ _ _ _ _ T112 (mkF m 81 #[.val (.ref a), .val (.int (1 : Int32)), .val (.int (0 : Int32)), .val (.ref b), .val (.int (0 : Int32)), .val (.int (18 : Int32)), .val (.ref t), .val (.ref t'), .val (.int (0 : Int32))] [(.int (0 : Int32)), (.int (0 : Int32))])
    refine Run.via (fun _ => XS.icmpNo X112.at X112.ex rfl (X112.de rmd_81) rfl (teq (by decide : ((0 : Int32) = (0 : Int32)))).2) ?_
    show Run _ _ _ _ _ _ _ _ _ _ _ _ _ T112 (mkF m 84 #[.val (.ref a), .val (.int (1 : Int32)), .val (.int (0 : Int32)), .val (.ref b), .val (.int (0 : Int32)), .val (.int (18 : Int32)), .val (.ref t), .val (.ref t'), .val (.int (0 : Int32))] [])
    refine Run.via (fun _ => XS.iload X112.at X112.ex rfl (X112.de rmd_84) rfl) ?_
    show Run _ _ _ _ _ _ _ _ _ _ _ _ _ T112 (mkF m 86 #[.val (.ref a), .val (.int (1 : Int32)), .val (.int (0 : Int32)), .val (.ref b), .val (.int (0 : Int32)), .val (.int (18 : Int32)), .val (.ref t), .val (.ref t'), .val (.int (0 : Int32))] [(.int (0 : Int32))])
    refine Run.via (fun _ => XS.ifNo X112.at X112.ex rfl (X112.de rmd_86) rfl ((if0 _ _).trans (teq (by decide : ((0 : Int32) = (0 : Int32)))).2)) ?_
    show Run _ _ _ _ _ _ _ _ _ _ _ _ _ T112 (mkF m 89 #[.val (.ref a), .val (.int (1 : Int32)), .val (.int (0 : Int32)), .val (.ref b), .val (.int (0 : Int32)), .val (.int (18 : Int32)), .val (.ref t), .val (.ref t'), .val (.int (0 : Int32))] [])
    refine Run.via (fun _ => XS.aload X112.at X112.ex rfl (X112.de rmd_89) rfl rfl) ?_
    show Run _ _ _ _ _ _ _ _ _ _ _ _ _ T112 (mkF m 91 #[.val (.ref a), .val (.int (1 : Int32)), .val (.int (0 : Int32)), .val (.ref b), .val (.int (0 : Int32)), .val (.int (18 : Int32)), .val (.ref t), .val (.ref t'), .val (.int (0 : Int32))] [(.ref t)])
    refine Run.via (fun _ => XS.iloadN X112.at X112.ex rfl (X112.de rmd_91) rfl) ?_
    show Run _ _ _ _ _ _ _ _ _ _ _ _ _ T112 (mkF m 92 #[.val (.ref a), .val (.int (1 : Int32)), .val (.int (0 : Int32)), .val (.ref b), .val (.int (0 : Int32)), .val (.int (18 : Int32)), .val (.ref t), .val (.ref t'), .val (.int (0 : Int32))] [(.int (0 : Int32)), (.ref t)])
    refine Run.via (fun _ => XS.aload X112.at X112.ex rfl (X112.de rmd_92) rfl rfl) ?_
    show Run _ _ _ _ _ _ _ _ _ _ _ _ _ T112 (mkF m 94 #[.val (.ref a), .val (.int (1 : Int32)), .val (.int (0 : Int32)), .val (.ref b), .val (.int (0 : Int32)), .val (.int (18 : Int32)), .val (.ref t), .val (.ref t'), .val (.int (0 : Int32))] [(.ref t'), (.int (0 : Int32)), (.ref t)])
    refine Run.via (fun _ => XS.iload X112.at X112.ex rfl (X112.de rmd_94) rfl) ?_
    show Run _ _ _ _ _ _ _ _ _ _ _ _ _ T112 (mkF m 96 #[.val (.ref a), .val (.int (1 : Int32)), .val (.int (0 : Int32)), .val (.ref b), .val (.int (0 : Int32)), .val (.int (18 : Int32)), .val (.ref t), .val (.ref t'), .val (.int (0 : Int32))] [(.int (0 : Int32)), (.ref t'), (.int (0 : Int32)), (.ref t)])
    refine Run.via (fun _ => XS.iload X112.at X112.ex rfl (X112.de rmd_96) rfl) ?_
    show Run _ _ _ _ _ _ _ _ _ _ _ _ _ T112 (mkF m 98 #[.val (.ref a), .val (.int (1 : Int32)), .val (.int (0 : Int32)), .val (.ref b), .val (.int (0 : Int32)), .val (.int (18 : Int32)), .val (.ref t), .val (.ref t'), .val (.int (0 : Int32))] [(.int (18 : Int32)), (.int (0 : Int32)), (.ref t'), (.int (0 : Int32)), (.ref t)])
    refine Run.callS X112 (y := (⟨"java/lang/StringLatin1", "regionMatchesCI", "([BI[BII)Z"⟩ : MethodName)) (W := 0) (con_rc l hw A A' (by simp; omega) (by decide) O) (wd hw 83 rfl) (wd hw 84 rfl) (wd hw 31 rfl) (wd hw 85 rfl) (by decide) pd___BI_BII_Z rfl (argsL := [(.ref t), (.int (0 : Int32)), (.ref t'), (.int (0 : Int32)), (.int (18 : Int32))]) (rest := []) rfl (Nat.le_of_ble_eq_true rfl) rfl rmd_98 (by decide) (by decide) (Nat.le_of_ble_eq_true rfl) (Nat.le_of_ble_eq_true rfl) (nofun) (nofun) ?_
    intro v113 T113 h113 L113 q113 X113 XF113 XK113 K113
    obtain rfl := q113
    show Run _ _ _ _ _ _ _ _ _ _ _ _ _ T113 (mkF m 101 #[.val (.ref a), .val (.int (1 : Int32)), .val (.int (0 : Int32)), .val (.ref b), .val (.int (0 : Int32)), .val (.int (18 : Int32)), .val (.ref t), .val (.ref t'), .val (.int (0 : Int32))] [(.int (if aeB (fun j => eicV ((cs.map StrChars.lo8).getD j 0) ((KT.map StrChars.lo8).getD j 0)) = true then 1 else 0 : Int32))])
    refine Run.via (fun _ => XS.goto X113.at X113.ex rfl (pc0 := 101) (pc' := 116) rfl (X113.de rmd_101) (by decide) (by decide)) ?_
    show Run _ _ _ _ _ _ _ _ _ _ _ _ _ T113 (mkF m 116 #[.val (.ref a), .val (.int (1 : Int32)), .val (.int (0 : Int32)), .val (.ref b), .val (.int (0 : Int32)), .val (.int (18 : Int32)), .val (.ref t), .val (.ref t'), .val (.int (0 : Int32))] [(.int (if aeB (fun j => eicV ((cs.map StrChars.lo8).getD j 0) ((KT.map StrChars.lo8).getD j 0)) = true then 1 else 0 : Int32))])
    exact Run.retN X113 (t := .boolean) rfl (by simp) rmd_116 (Nat.le_of_ble_eq_true rfl) (Nat.le_of_ble_eq_true rfl) (by rw [nar_b, rmV (by omega)])
  ·
    rw [show Int32.ofNat cs.length = Int32.ofNat 1 from by rw [hlen]]
    show Run _ _ _ _ _ _ _ _ _ _ _ _ _ T101 (mkF m 30 #[.val (.ref a), .val (.int (1 : Int32)), .val (.int (0 : Int32)), .val (.ref b), .val (.int (0 : Int32)), .val (.int (18 : Int32)), .unset, .unset, .unset] [(.int (Int32.ofNat 1)), (.long ((0 : Int32).toInt64))])
    refine Run.via (fun _ => XS.i2l X101.at X101.ex rfl (X101.de rmd_30) rfl) ?_
    show Run _ _ _ _ _ _ _ _ _ _ _ _ _ T101 (mkF m 31 #[.val (.ref a), .val (.int (1 : Int32)), .val (.int (0 : Int32)), .val (.ref b), .val (.int (0 : Int32)), .val (.int (18 : Int32)), .unset, .unset, .unset] [(.long ((Int32.ofNat 1).toInt64)), (.long ((0 : Int32).toInt64))])
    refine Run.via (fun _ => XS.iload X101.at X101.ex rfl (X101.de rmd_31) rfl) ?_
    show Run _ _ _ _ _ _ _ _ _ _ _ _ _ T101 (mkF m 33 #[.val (.ref a), .val (.int (1 : Int32)), .val (.int (0 : Int32)), .val (.ref b), .val (.int (0 : Int32)), .val (.int (18 : Int32)), .unset, .unset, .unset] [(.int (18 : Int32)), (.long ((Int32.ofNat 1).toInt64)), (.long ((0 : Int32).toInt64))])
    refine Run.via (fun _ => XS.i2l X101.at X101.ex rfl (X101.de rmd_33) rfl) ?_
    show Run _ _ _ _ _ _ _ _ _ _ _ _ _ T101 (mkF m 34 #[.val (.ref a), .val (.int (1 : Int32)), .val (.int (0 : Int32)), .val (.ref b), .val (.int (0 : Int32)), .val (.int (18 : Int32)), .unset, .unset, .unset] [(.long ((18 : Int32).toInt64)), (.long ((Int32.ofNat 1).toInt64)), (.long ((0 : Int32).toInt64))])
    refine Run.via (fun _ => XS.lsub X101.at X101.ex rfl (X101.de rmd_34) rfl) ?_
    show Run _ _ _ _ _ _ _ _ _ _ _ _ _ T101 (mkF m 35 #[.val (.ref a), .val (.int (1 : Int32)), .val (.int (0 : Int32)), .val (.ref b), .val (.int (0 : Int32)), .val (.int (18 : Int32)), .unset, .unset, .unset] [(.long (((Int32.ofNat 1).toInt64) - ((18 : Int32).toInt64))), (.long ((0 : Int32).toInt64))])
    refine Run.via (fun _ => XS.lcmp X101.at X101.ex rfl (X101.de rmd_35) rfl) ?_
    show Run _ _ _ _ _ _ _ _ _ _ _ _ _ T101 (mkF m 36 #[.val (.ref a), .val (.int (1 : Int32)), .val (.int (0 : Int32)), .val (.ref b), .val (.int (0 : Int32)), .val (.int (18 : Int32)), .unset, .unset, .unset] [(.int (lcmpW ((0 : Int32).toInt64) (((Int32.ofNat 1).toInt64) - ((18 : Int32).toInt64))))])
    refine Run.via (fun _ => XS.ifYes X101.at X101.ex rfl (pc0 := 36) (pc' := 55) rfl (X101.de rmd_36) rfl ((if0 _ _).trans (tlt (by decide)).2.2.1) (by decide) (by decide)) ?_
    show Run _ _ _ _ _ _ _ _ _ _ _ _ _ T101 (mkF m 55 #[.val (.ref a), .val (.int (1 : Int32)), .val (.int (0 : Int32)), .val (.ref b), .val (.int (0 : Int32)), .val (.int (18 : Int32)), .unset, .unset, .unset] [])
    refine Run.via (fun _ => XS.iconst X101.at X101.ex rfl (X101.de rmd_55)) ?_
    show Run _ _ _ _ _ _ _ _ _ _ _ _ _ T101 (mkF m 56 #[.val (.ref a), .val (.int (1 : Int32)), .val (.int (0 : Int32)), .val (.ref b), .val (.int (0 : Int32)), .val (.int (18 : Int32)), .unset, .unset, .unset] [(.int (0 : Int32))])
    exact Run.retN X101 (t := .boolean) rfl (by simp) rmd_56 (Nat.le_of_ble_eq_true rfl) (Nat.le_of_ble_eq_true rfl) (by rw [if_neg (fun z => absurd z.1 (by omega))]; rfl)
-- part con_si
theorem sid_0 : decode prog_3_method_2_code 0 = .ok (.aload_n 0, 1) := by decide +kernel
theorem sid_1 : decode prog_3_method_2_code 1 = .ok (.iconst 1, 1) := by decide +kernel
theorem sid_2 : decode prog_3_method_2_code 2 = .ok (.iconst 0, 1) := by decide +kernel
theorem sid_3 : decode prog_3_method_2_code 3 = .ok (.ldc 19, 2) := by decide +kernel
theorem sid_5 : decode prog_3_method_2_code 5 = .ok (.iconst 0, 1) := by decide +kernel
theorem sid_6 : decode prog_3_method_2_code 6 = .ok (.ldc 19, 2) := by decide +kernel
theorem sid_8 : decode prog_3_method_2_code 8 = .ok (.invokevirtual 21, 3) := by decide +kernel
theorem sid_11 : decode prog_3_method_2_code 11 = .ok (.invokevirtual 27, 3) := by decide +kernel
theorem sid_14 : decode prog_3_method_2_code 14 = .ok (.ireturn, 1) := by decide +kernel
set_option maxRecDepth 65536 in
set_option maxHeartbeats 40000000 in
theorem con_si (l : Launch) {Z : State} {a0 : Array Value} {EL : List (String × Nat)} {h0 : Heap} (hw : ∀ d ∈ tables_1, d.before a0 Z = true) (hS : Sets Z) (hN : NW = false) (hmI : ("com/example/veneer/veneer/ServiceIri", 19) ∈ EL) {a : Addr} {cs : List Int32} (hl : Lat cs) (hn : cs.length = 17 ∨ cs.length = 18 ∨ cs.length = 20 ∨ cs.length = 1) (S : Str Z h0 a cs) (O : Ext Z.heap h0) : Con l Z a0 EL false none false (⟨"com/example/veneer/veneer/ServiceIri", "isServiceIri", "(Ljava/lang/String;)Z"⟩ : MethodName) prog_3_method_2_code 1 (some .boolean) ({ frames := 3, cells := 4, slots := 152, locals := 64 } : Room) [] [] #[(.ref a)] h0 (fun v _ => v = some (.int (if 18 ≤ cs.length ∧ aeB (fun j => eicV (StrChars.lo8 (cs.getD j 0)) (StrChars.lo8 (KT.getD j 0))) = true then 1 else 0))) := by
  refine Con.enter (plainFor_of_name (by first | (simp [plainName, overriddenIn]; done) | decide +kernel)) O ?_
  intro p e s m below meth c T0 X0
  rw [show entryFrame m #[(.ref a)] 1 = (mkF m 0 #[.val (.ref a)] []) from by first | (simp [entryFrame, mkF, argsToLocals, Value.category]; done) | rfl]
  refine Run.via (fun _ => XS.aloadN X0.at X0.ex rfl (X0.de sid_0) rfl rfl) ?_
  show Run _ _ _ _ _ _ _ _ _ _ _ _ _ T0 (mkF m 1 #[.val (.ref a)] [(.ref a)])
  refine Run.via (fun _ => XS.iconst X0.at X0.ex rfl (X0.de sid_1)) ?_
  show Run _ _ _ _ _ _ _ _ _ _ _ _ _ T0 (mkF m 2 #[.val (.ref a)] [(.int (1 : Int32)), (.ref a)])
  refine Run.via (fun _ => XS.iconst X0.at X0.ex rfl (X0.de sid_2)) ?_
  show Run _ _ _ _ _ _ _ _ _ _ _ _ _ T0 (mkF m 3 #[.val (.ref a)] [(.int (0 : Int32)), (.int (1 : Int32)), (.ref a)])
  refine Run.ldcS hw hN X0 (cs := [(120 : Int32), (45 : Int32), (115 : Int32), (112 : Int32), (97 : Int32), (114 : Int32), (113 : Int32), (108 : Int32), (45 : Int32), (97 : Int32), (110 : Int32), (121 : Int32), (116 : Int32), (104 : Int32), (105 : Int32), (110 : Int32), (103 : Int32), (58 : Int32)]) (n := 72) (wd hw 66 rfl) hmI (by decide) (by decide) (by decide) sid_3 (by decide) (by decide) (Nat.le_of_ble_eq_true rfl) (Nat.le_of_ble_eq_true rfl) ?_
  intro a101 T101 h101 L101 X101 K101 S101
  show Run _ _ _ _ _ _ _ _ _ _ _ _ _ T101 (mkF m 5 #[.val (.ref a)] [(.ref a101), (.int (0 : Int32)), (.int (1 : Int32)), (.ref a)])
  have P1 : Str Z h101 a101 KT := S101
  have S1 := S.keep K101
  refine Run.via (fun _ => XS.iconst X101.at X101.ex rfl (X101.de sid_5)) ?_
  show Run _ _ _ _ _ _ _ _ _ _ _ _ _ T101 (mkF m 6 #[.val (.ref a)] [(.int (0 : Int32)), (.ref a101), (.int (0 : Int32)), (.int (1 : Int32)), (.ref a)])
  refine Run.ldcS hw hN X101 (cs := [(120 : Int32), (45 : Int32), (115 : Int32), (112 : Int32), (97 : Int32), (114 : Int32), (113 : Int32), (108 : Int32), (45 : Int32), (97 : Int32), (110 : Int32), (121 : Int32), (116 : Int32), (104 : Int32), (105 : Int32), (110 : Int32), (103 : Int32), (58 : Int32)]) (n := 72) (wd hw 66 rfl) hmI (by decide) (by decide) (by decide) sid_6 (by decide) (by decide) (Nat.le_of_ble_eq_true rfl) (Nat.le_of_ble_eq_true rfl) ?_
  intro a102 T102 h102 L102 X102 K102 S102
  show Run _ _ _ _ _ _ _ _ _ _ _ _ _ T102 (mkF m 8 #[.val (.ref a)] [(.ref a102), (.int (0 : Int32)), (.ref a101), (.int (0 : Int32)), (.int (1 : Int32)), (.ref a)])
  have P2 := P1.keep K102
  have S2 := S1.keep K102
  have E2 := S2.1
  refine Run.slen hw hS X102 (W := 5) S102 (wd hw 67 rfl) (wd hw 68 rfl) (wd hw 69 rfl) (wd hw 70 rfl) (wd hw 10 rfl) sid_8 rfl (Nat.le_of_ble_eq_true rfl) (by decide) (by decide) (Nat.le_of_ble_eq_true rfl) (Nat.le_of_ble_eq_true rfl) ?_
  intro T103 X103
  show Run _ _ _ _ _ _ _ _ _ _ _ _ _ T103 (mkF m 11 #[.val (.ref a)] [(.int (18 : Int32)), (.int (0 : Int32)), (.ref a101), (.int (0 : Int32)), (.int (1 : Int32)), (.ref a)])
  refine Run.callV X103 (y := (⟨"java/lang/String", "regionMatches", "(ZILjava/lang/String;II)Z"⟩ : MethodName)) (W := 0) (con_rm l hw hS hl hn S2 P2 X103.old) E2 (wd hw 77 rfl) (wd hw 78 rfl) (wd hw 79 rfl) (wd hw 80 rfl) (wd hw 9 rfl) (wd hw 81 rfl) (by decide) pd__ZILjava_lang_String_II_Z rfl (argsL := [(.int (1 : Int32)), (.int (0 : Int32)), (.ref a101), (.int (0 : Int32)), (.int (18 : Int32))]) (rest := []) rfl (Nat.le_of_ble_eq_true rfl) rfl sid_11 (by decide) (by decide) (Nat.le_of_ble_eq_true rfl) (Nat.le_of_ble_eq_true rfl) (nofun) (nofun) ?_
  intro v104 T104 h104 L104 q104 X104 XF104 XK104 K104
  obtain rfl := q104
  show Run _ _ _ _ _ _ _ _ _ _ _ _ _ T104 (mkF m 14 #[.val (.ref a)] [(.int ((if 18 ≤ cs.length ∧ aeB (fun j => eicV (StrChars.lo8 (cs.getD j 0)) (StrChars.lo8 (KT.getD j 0))) = true then 1 else 0) : Int32))])
  exact Run.retN X104 (t := .boolean) rfl (by simp) sid_14 (Nat.le_of_ble_eq_true rfl) (Nat.le_of_ble_eq_true rfl) (by rw [nar_b])
-- part con_law
set_option maxRecDepth 65536 in
set_option maxHeartbeats 40000000 in
theorem con_law (l : Launch) {Z : State} {a0 : Array Value} {EL : List (String × Nat)} {h0 : Heap} (hw : ∀ d ∈ tables_1, d.before a0 Z = true) (hS : Sets Z) (hN : NW = false) (hm : ("com/example/veneer/veneer/ServiceIriIsServiceIriPinLaw", 7) ∈ EL) (hmI : ("com/example/veneer/veneer/ServiceIri", 19) ∈ EL) {mk x1 x2 x3 tl : Int32} (O : Ext Z.heap h0) : Con l Z a0 EL false none false x code maxLocals ret room_1 [] [] #[(.int mk), (.int x1), (.int x2), (.int x3), (.int tl)] h0 (fun v _ => v = some (.int 1)) := by
  refine Con.enter (plainFor_of_name (by first | (simp [plainName, overriddenIn]; done) | decide +kernel)) O ?_
  intro p e s m below meth c T0 X0
  rw [show entryFrame m #[(.int mk), (.int x1), (.int x2), (.int x3), (.int tl)] maxLocals = (mkF m 0 #[.val (.int mk), .val (.int x1), .val (.int x2), .val (.int x3), .val (.int tl), .unset, .unset, .unset, .unset, .unset, .unset, .unset, .unset, .unset] []) from by first | (simp [entryFrame, mkF, argsToLocals, Value.category, maxLocals]; done) | rfl]
  have ho := O.1
  refine Run.via (fun _ => XS.iloadN X0.at X0.ex rfl (X0.de at_0) rfl) ?_
  show Run _ _ _ _ _ _ _ _ _ _ _ _ _ T0 (mkF m 1 #[.val (.int mk), .val (.int x1), .val (.int x2), .val (.int x3), .val (.int tl), .unset, .unset, .unset, .unset, .unset, .unset, .unset, .unset, .unset] [(.int x1)])
  refine Run.via (fun _ => XS.bipush X0.at X0.ex rfl (X0.de at_1)) ?_
  show Run _ _ _ _ _ _ _ _ _ _ _ _ _ T0 (mkF m 3 #[.val (.int mk), .val (.int x1), .val (.int x2), .val (.int x3), .val (.int tl), .unset, .unset, .unset, .unset, .unset, .unset, .unset, .unset, .unset] [(.int (31 : Int32)), (.int x1)])
  refine Run.via (fun _ => XS.iand X0.at X0.ex rfl (X0.de at_3) rfl) ?_
  show Run _ _ _ _ _ _ _ _ _ _ _ _ _ T0 (mkF m 4 #[.val (.int mk), .val (.int x1), .val (.int x2), .val (.int x3), .val (.int tl), .unset, .unset, .unset, .unset, .unset, .unset, .unset, .unset, .unset] [(.int (x1 &&& (31 : Int32)))])
  obtain ⟨ps, hps, rps⟩ : ∃ ps, (x1 &&& (31 : Int32)) = ps ∧ ∃ k : Nat, k < 32 ∧ ps = Int32.ofNat k := ⟨_, rfl, and31 _⟩
  rw [hps]
  show Run _ _ _ _ _ _ _ _ _ _ _ _ _ T0 (mkF m 4 #[.val (.int mk), .val (.int x1), .val (.int x2), .val (.int x3), .val (.int tl), .unset, .unset, .unset, .unset, .unset, .unset, .unset, .unset, .unset] [(.int ps)])
  refine Run.via (fun _ => XS.istore X0.at X0.ex rfl (X0.de at_4) rfl (l' := #[.val (.int mk), .val (.int x1), .val (.int x2), .val (.int x3), .val (.int tl), .val (.int ps), .unset, .unset, .unset, .unset, .unset, .unset, .unset, .unset]) rfl) ?_
  show Run _ _ _ _ _ _ _ _ _ _ _ _ _ T0 (mkF m 6 #[.val (.int mk), .val (.int x1), .val (.int x2), .val (.int x3), .val (.int tl), .val (.int ps), .unset, .unset, .unset, .unset, .unset, .unset, .unset, .unset] [])
  refine Run.via (fun _ => XS.iloadN X0.at X0.ex rfl (X0.de at_6) rfl) ?_
  show Run _ _ _ _ _ _ _ _ _ _ _ _ _ T0 (mkF m 7 #[.val (.int mk), .val (.int x1), .val (.int x2), .val (.int x3), .val (.int tl), .val (.int ps), .unset, .unset, .unset, .unset, .unset, .unset, .unset, .unset] [(.int x2)])
  refine Run.via (fun _ => XS.sipush X0.at X0.ex rfl (X0.de at_7)) ?_
  show Run _ _ _ _ _ _ _ _ _ _ _ _ _ T0 (mkF m 10 #[.val (.int mk), .val (.int x1), .val (.int x2), .val (.int x3), .val (.int tl), .val (.int ps), .unset, .unset, .unset, .unset, .unset, .unset, .unset, .unset] [(.int (255 : Int32)), (.int x2)])
  refine Run.via (fun _ => XS.iand X0.at X0.ex rfl (X0.de at_10) rfl) ?_
  show Run _ _ _ _ _ _ _ _ _ _ _ _ _ T0 (mkF m 11 #[.val (.int mk), .val (.int x1), .val (.int x2), .val (.int x3), .val (.int tl), .val (.int ps), .unset, .unset, .unset, .unset, .unset, .unset, .unset, .unset] [(.int (x2 &&& (255 : Int32)))])
  refine Run.via (fun _ => XS.i2c X0.at X0.ex rfl (X0.de at_11) rfl) ?_
  show Run _ _ _ _ _ _ _ _ _ _ _ _ _ T0 (mkF m 12 #[.val (.int mk), .val (.int x1), .val (.int x2), .val (.int x3), .val (.int tl), .val (.int ps), .unset, .unset, .unset, .unset, .unset, .unset, .unset, .unset] [(.int ((x2 &&& (255 : Int32)).toUInt32.toUInt16.toUInt32.toInt32))])
  obtain ⟨ch, hch, rc⟩ : ∃ c, ((x2 &&& (255 : Int32)).toUInt32.toUInt16.toUInt32.toInt32) = c ∧ ¬ c < 0 ∧ ¬ (255 : Int32) < c := ⟨_, rfl, and255 _⟩
  rw [hch]
  show Run _ _ _ _ _ _ _ _ _ _ _ _ _ T0 (mkF m 12 #[.val (.int mk), .val (.int x1), .val (.int x2), .val (.int x3), .val (.int tl), .val (.int ps), .unset, .unset, .unset, .unset, .unset, .unset, .unset, .unset] [(.int ch)])
  refine Run.via (fun _ => XS.istore X0.at X0.ex rfl (X0.de at_12) rfl (l' := #[.val (.int mk), .val (.int x1), .val (.int x2), .val (.int x3), .val (.int tl), .val (.int ps), .val (.int ch), .unset, .unset, .unset, .unset, .unset, .unset, .unset]) rfl) ?_
  show Run _ _ _ _ _ _ _ _ _ _ _ _ _ T0 (mkF m 14 #[.val (.int mk), .val (.int x1), .val (.int x2), .val (.int x3), .val (.int tl), .val (.int ps), .val (.int ch), .unset, .unset, .unset, .unset, .unset, .unset, .unset] [])
  refine Run.via (fun _ => XS.bipush X0.at X0.ex rfl (X0.de at_14)) ?_
  show Run _ _ _ _ _ _ _ _ _ _ _ _ _ T0 (mkF m 16 #[.val (.int mk), .val (.int x1), .val (.int x2), .val (.int x3), .val (.int tl), .val (.int ps), .val (.int ch), .unset, .unset, .unset, .unset, .unset, .unset, .unset] [(.int (20 : Int32))])
  refine Run.newarr X0 (aty := .char) (n := 20) (cap := 20) (wd hw 0 rfl) rfl at_16 rfl (Nat.le_refl _) (by decide) (Nat.le_of_ble_eq_true rfl) (Nat.le_of_ble_eq_true rfl) ?_
  intro T101 h101 x101 g101 X101 K101 z101 A101
  have A101 : Arc .char Z h101 x101 [(0 : Int32), (0 : Int32), (0 : Int32), (0 : Int32), (0 : Int32), (0 : Int32), (0 : Int32), (0 : Int32), (0 : Int32), (0 : Int32), (0 : Int32), (0 : Int32), (0 : Int32), (0 : Int32), (0 : Int32), (0 : Int32), (0 : Int32), (0 : Int32), (0 : Int32), (0 : Int32)] := A101
  show Run _ _ _ _ _ _ _ _ _ _ _ _ _ T101 (mkF m 18 #[.val (.int mk), .val (.int x1), .val (.int x2), .val (.int x3), .val (.int tl), .val (.int ps), .val (.int ch), .unset, .unset, .unset, .unset, .unset, .unset, .unset] [(.ref x101)])
  have kar := K101.1
  have J46 : ∀ (Tj : State) (hj : Heap) (Lq : List Loc) (ka : Addr) (d0 d1 : Int32), Sit Z a0 EL (some ka) p l e room_1 s m #[(.int mk), (.int x1), (.int x2), (.int x3), (.int tl)] below meth c "com/example/veneer/veneer/ServiceIriIsServiceIriPinLaw" code maxLocals ret "law" h0 [] [x101] Tj hj Lq 3 96 → Str Z hj ka KT → AtR 0 ps ch d0 → AtR 1 ps ch d1 → Arc .char Z hj x101 [d0, d1, (0 : Int32), (0 : Int32), (0 : Int32), (0 : Int32), (0 : Int32), (0 : Int32), (0 : Int32), (0 : Int32), (0 : Int32), (0 : Int32), (0 : Int32), (0 : Int32), (0 : Int32), (0 : Int32), (0 : Int32), (0 : Int32), (0 : Int32), (0 : Int32)] → Run Z EL false false p e below s h0 [] (fun v _ => v = some (.int 1)) room_1.cells room_1.slots Tj (mkF m 46 #[.val (.int mk), .val (.int x1), .val (.int x2), .val (.int x3), .val (.int tl), .val (.int ps), .val (.int ch), .unset, .unset, .unset, .unset, .unset, .unset, .unset] [(.ref x101)]) := by
    intro Tj hj Lq ka d0 d1 Xj SK t0 t1 A
    refine Run.via (fun _ => XS.dup Xj.at Xj.ex rfl (Xj.de at_46) rfl rfl) ?_
    show Run _ _ _ _ _ _ _ _ _ _ _ _ _ Tj (mkF m 47 #[.val (.int mk), .val (.int x1), .val (.int x2), .val (.int x3), .val (.int tl), .val (.int ps), .val (.int ch), .unset, .unset, .unset, .unset, .unset, .unset, .unset] [(.ref x101), (.ref x101)])
    refine Run.via (fun _ => XS.iconst Xj.at Xj.ex rfl (Xj.de at_47)) ?_
    show Run _ _ _ _ _ _ _ _ _ _ _ _ _ Tj (mkF m 48 #[.val (.int mk), .val (.int x1), .val (.int x2), .val (.int x3), .val (.int tl), .val (.int ps), .val (.int ch), .unset, .unset, .unset, .unset, .unset, .unset, .unset] [(.int (2 : Int32)), (.ref x101), (.ref x101)])
    refine Run.via (fun _ => XS.iconst Xj.at Xj.ex rfl (Xj.de at_48)) ?_
    show Run _ _ _ _ _ _ _ _ _ _ _ _ _ Tj (mkF m 49 #[.val (.int mk), .val (.int x1), .val (.int x2), .val (.int x3), .val (.int tl), .val (.int ps), .val (.int ch), .unset, .unset, .unset, .unset, .unset, .unset, .unset] [(.int (2 : Int32)), (.int (2 : Int32)), (.ref x101), (.ref x101)])
    refine Run.via (fun _ => XS.iloadN Xj.at Xj.ex rfl (Xj.de at_49) rfl) ?_
    show Run _ _ _ _ _ _ _ _ _ _ _ _ _ Tj (mkF m 50 #[.val (.int mk), .val (.int x1), .val (.int x2), .val (.int x3), .val (.int tl), .val (.int ps), .val (.int ch), .unset, .unset, .unset, .unset, .unset, .unset, .unset] [(.int mk), (.int (2 : Int32)), (.int (2 : Int32)), (.ref x101), (.ref x101)])
    refine Run.via (fun _ => XS.iload Xj.at Xj.ex rfl (Xj.de at_50) rfl) ?_
    show Run _ _ _ _ _ _ _ _ _ _ _ _ _ Tj (mkF m 52 #[.val (.int mk), .val (.int x1), .val (.int x2), .val (.int x3), .val (.int tl), .val (.int ps), .val (.int ch), .unset, .unset, .unset, .unset, .unset, .unset, .unset] [(.int ps), (.int mk), (.int (2 : Int32)), (.int (2 : Int32)), (.ref x101), (.ref x101)])
    refine Run.via (fun _ => XS.iload Xj.at Xj.ex rfl (Xj.de at_52) rfl) ?_
    show Run _ _ _ _ _ _ _ _ _ _ _ _ _ Tj (mkF m 54 #[.val (.int mk), .val (.int x1), .val (.int x2), .val (.int x3), .val (.int tl), .val (.int ps), .val (.int ch), .unset, .unset, .unset, .unset, .unset, .unset, .unset] [(.int ch), (.int ps), (.int mk), (.int (2 : Int32)), (.int (2 : Int32)), (.ref x101), (.ref x101)])
    refine Run.via (fun _ => XS.iload Xj.at Xj.ex rfl (Xj.de at_54) rfl) ?_
    show Run _ _ _ _ _ _ _ _ _ _ _ _ _ Tj (mkF m 56 #[.val (.int mk), .val (.int x1), .val (.int x2), .val (.int x3), .val (.int tl), .val (.int ps), .val (.int ch), .unset, .unset, .unset, .unset, .unset, .unset, .unset] [(.int tl), (.int ch), (.int ps), (.int mk), (.int (2 : Int32)), (.int (2 : Int32)), (.ref x101), (.ref x101)])
    refine Run.callS Xj (y := (⟨"com/example/veneer/veneer/ServiceIriIsServiceIriPinLaw", "at", "(IIICI)C"⟩ : MethodName)) (W := 3) (con_aK l hw hS (i := 2) SK (by decide) rc Xj.old) (wd hw 1 rfl) (wd hw 2 rfl) (wd hw 3 rfl) (wd hw 4 rfl) (by decide) pd__IIICI_C rfl (argsL := [(.int (2 : Int32)), (.int mk), (.int ps), (.int ch), (.int tl)]) (rest := [(.int (2 : Int32)), (.ref x101), (.ref x101)]) rfl (Nat.le_of_ble_eq_true rfl) rfl at_56 (by decide) (by decide) (Nat.le_of_ble_eq_true rfl) (Nat.le_of_ble_eq_true rfl) (nofun) (nofun) ?_
    intro v102 T102 h102 L102 q102 X102 XF102 XK102 K102
    obtain ⟨d2, rfl, t2⟩ := q102
    show Run _ _ _ _ _ _ _ _ _ _ _ _ _ T102 (mkF m 59 #[.val (.int mk), .val (.int x1), .val (.int x2), .val (.int x3), .val (.int tl), .val (.int ps), .val (.int ch), .unset, .unset, .unset, .unset, .unset, .unset, .unset] [(.int d2), (.int (2 : Int32)), (.ref x101), (.ref x101)])
    have A102x := A.keep K102 nin0
    have SK2 := SK.keep K102
    have u2 := X102.kp.1
    have ul2 := A102x.lt
    refine Run.castore X102 (i := 2) (v' := d2) A102x rfl (Nat.le_of_ble_eq_true rfl) (nar_lat t2.2.2) (Or.inr (by omega)) (by omega) at_59 ?_
    intro T103 h103 L103 X103 K103 z103 A103
    have A103 : Arc .char Z h103 x101 [d0, d1, d2, (0 : Int32), (0 : Int32), (0 : Int32), (0 : Int32), (0 : Int32), (0 : Int32), (0 : Int32), (0 : Int32), (0 : Int32), (0 : Int32), (0 : Int32), (0 : Int32), (0 : Int32), (0 : Int32), (0 : Int32), (0 : Int32), (0 : Int32)] := A103
    show Run _ _ _ _ _ _ _ _ _ _ _ _ _ T103 (mkF m 60 #[.val (.int mk), .val (.int x1), .val (.int x2), .val (.int x3), .val (.int tl), .val (.int ps), .val (.int ch), .unset, .unset, .unset, .unset, .unset, .unset, .unset] [(.ref x101)])
    have SL2 := SK2.keepC A102x K103 (wd hw 10 rfl)
    refine Run.via (fun _ => XS.dup X103.at X103.ex rfl (X103.de at_60) rfl rfl) ?_
    show Run _ _ _ _ _ _ _ _ _ _ _ _ _ T103 (mkF m 61 #[.val (.int mk), .val (.int x1), .val (.int x2), .val (.int x3), .val (.int tl), .val (.int ps), .val (.int ch), .unset, .unset, .unset, .unset, .unset, .unset, .unset] [(.ref x101), (.ref x101)])
    refine Run.via (fun _ => XS.iconst X103.at X103.ex rfl (X103.de at_61)) ?_
    show Run _ _ _ _ _ _ _ _ _ _ _ _ _ T103 (mkF m 62 #[.val (.int mk), .val (.int x1), .val (.int x2), .val (.int x3), .val (.int tl), .val (.int ps), .val (.int ch), .unset, .unset, .unset, .unset, .unset, .unset, .unset] [(.int (3 : Int32)), (.ref x101), (.ref x101)])
    refine Run.via (fun _ => XS.iconst X103.at X103.ex rfl (X103.de at_62)) ?_
    show Run _ _ _ _ _ _ _ _ _ _ _ _ _ T103 (mkF m 63 #[.val (.int mk), .val (.int x1), .val (.int x2), .val (.int x3), .val (.int tl), .val (.int ps), .val (.int ch), .unset, .unset, .unset, .unset, .unset, .unset, .unset] [(.int (3 : Int32)), (.int (3 : Int32)), (.ref x101), (.ref x101)])
    refine Run.via (fun _ => XS.iloadN X103.at X103.ex rfl (X103.de at_63) rfl) ?_
    show Run _ _ _ _ _ _ _ _ _ _ _ _ _ T103 (mkF m 64 #[.val (.int mk), .val (.int x1), .val (.int x2), .val (.int x3), .val (.int tl), .val (.int ps), .val (.int ch), .unset, .unset, .unset, .unset, .unset, .unset, .unset] [(.int mk), (.int (3 : Int32)), (.int (3 : Int32)), (.ref x101), (.ref x101)])
    refine Run.via (fun _ => XS.iload X103.at X103.ex rfl (X103.de at_64) rfl) ?_
    show Run _ _ _ _ _ _ _ _ _ _ _ _ _ T103 (mkF m 66 #[.val (.int mk), .val (.int x1), .val (.int x2), .val (.int x3), .val (.int tl), .val (.int ps), .val (.int ch), .unset, .unset, .unset, .unset, .unset, .unset, .unset] [(.int ps), (.int mk), (.int (3 : Int32)), (.int (3 : Int32)), (.ref x101), (.ref x101)])
    refine Run.via (fun _ => XS.iload X103.at X103.ex rfl (X103.de at_66) rfl) ?_
    show Run _ _ _ _ _ _ _ _ _ _ _ _ _ T103 (mkF m 68 #[.val (.int mk), .val (.int x1), .val (.int x2), .val (.int x3), .val (.int tl), .val (.int ps), .val (.int ch), .unset, .unset, .unset, .unset, .unset, .unset, .unset] [(.int ch), (.int ps), (.int mk), (.int (3 : Int32)), (.int (3 : Int32)), (.ref x101), (.ref x101)])
    refine Run.via (fun _ => XS.iload X103.at X103.ex rfl (X103.de at_68) rfl) ?_
    show Run _ _ _ _ _ _ _ _ _ _ _ _ _ T103 (mkF m 70 #[.val (.int mk), .val (.int x1), .val (.int x2), .val (.int x3), .val (.int tl), .val (.int ps), .val (.int ch), .unset, .unset, .unset, .unset, .unset, .unset, .unset] [(.int tl), (.int ch), (.int ps), (.int mk), (.int (3 : Int32)), (.int (3 : Int32)), (.ref x101), (.ref x101)])
    refine Run.callS X103 (y := (⟨"com/example/veneer/veneer/ServiceIriIsServiceIriPinLaw", "at", "(IIICI)C"⟩ : MethodName)) (W := 3) (con_aK l hw hS (i := 3) SL2 (by decide) rc X103.old) (wd hw 1 rfl) (wd hw 2 rfl) (wd hw 3 rfl) (wd hw 4 rfl) (by decide) pd__IIICI_C rfl (argsL := [(.int (3 : Int32)), (.int mk), (.int ps), (.int ch), (.int tl)]) (rest := [(.int (3 : Int32)), (.ref x101), (.ref x101)]) rfl (Nat.le_of_ble_eq_true rfl) rfl at_70 (by decide) (by decide) (Nat.le_of_ble_eq_true rfl) (Nat.le_of_ble_eq_true rfl) (nofun) (nofun) ?_
    intro v104 T104 h104 L104 q104 X104 XF104 XK104 K104
    obtain ⟨d3, rfl, t3⟩ := q104
    show Run _ _ _ _ _ _ _ _ _ _ _ _ _ T104 (mkF m 73 #[.val (.int mk), .val (.int x1), .val (.int x2), .val (.int x3), .val (.int tl), .val (.int ps), .val (.int ch), .unset, .unset, .unset, .unset, .unset, .unset, .unset] [(.int d3), (.int (3 : Int32)), (.ref x101), (.ref x101)])
    have A104x := A103.keep K104 nin0
    have SK3 := SL2.keep K104
    have u3 := X104.kp.1
    have ul3 := A104x.lt
    refine Run.castore X104 (i := 3) (v' := d3) A104x rfl (Nat.le_of_ble_eq_true rfl) (nar_lat t3.2.2) (Or.inr (by omega)) (by omega) at_73 ?_
    intro T105 h105 L105 X105 K105 z105 A105
    have A105 : Arc .char Z h105 x101 [d0, d1, d2, d3, (0 : Int32), (0 : Int32), (0 : Int32), (0 : Int32), (0 : Int32), (0 : Int32), (0 : Int32), (0 : Int32), (0 : Int32), (0 : Int32), (0 : Int32), (0 : Int32), (0 : Int32), (0 : Int32), (0 : Int32), (0 : Int32)] := A105
    show Run _ _ _ _ _ _ _ _ _ _ _ _ _ T105 (mkF m 74 #[.val (.int mk), .val (.int x1), .val (.int x2), .val (.int x3), .val (.int tl), .val (.int ps), .val (.int ch), .unset, .unset, .unset, .unset, .unset, .unset, .unset] [(.ref x101)])
    have SL3 := SK3.keepC A104x K105 (wd hw 10 rfl)
    refine Run.via (fun _ => XS.dup X105.at X105.ex rfl (X105.de at_74) rfl rfl) ?_
    show Run _ _ _ _ _ _ _ _ _ _ _ _ _ T105 (mkF m 75 #[.val (.int mk), .val (.int x1), .val (.int x2), .val (.int x3), .val (.int tl), .val (.int ps), .val (.int ch), .unset, .unset, .unset, .unset, .unset, .unset, .unset] [(.ref x101), (.ref x101)])
    refine Run.via (fun _ => XS.iconst X105.at X105.ex rfl (X105.de at_75)) ?_
    show Run _ _ _ _ _ _ _ _ _ _ _ _ _ T105 (mkF m 76 #[.val (.int mk), .val (.int x1), .val (.int x2), .val (.int x3), .val (.int tl), .val (.int ps), .val (.int ch), .unset, .unset, .unset, .unset, .unset, .unset, .unset] [(.int (4 : Int32)), (.ref x101), (.ref x101)])
    refine Run.via (fun _ => XS.iconst X105.at X105.ex rfl (X105.de at_76)) ?_
    show Run _ _ _ _ _ _ _ _ _ _ _ _ _ T105 (mkF m 77 #[.val (.int mk), .val (.int x1), .val (.int x2), .val (.int x3), .val (.int tl), .val (.int ps), .val (.int ch), .unset, .unset, .unset, .unset, .unset, .unset, .unset] [(.int (4 : Int32)), (.int (4 : Int32)), (.ref x101), (.ref x101)])
    refine Run.via (fun _ => XS.iloadN X105.at X105.ex rfl (X105.de at_77) rfl) ?_
    show Run _ _ _ _ _ _ _ _ _ _ _ _ _ T105 (mkF m 78 #[.val (.int mk), .val (.int x1), .val (.int x2), .val (.int x3), .val (.int tl), .val (.int ps), .val (.int ch), .unset, .unset, .unset, .unset, .unset, .unset, .unset] [(.int mk), (.int (4 : Int32)), (.int (4 : Int32)), (.ref x101), (.ref x101)])
    refine Run.via (fun _ => XS.iload X105.at X105.ex rfl (X105.de at_78) rfl) ?_
    show Run _ _ _ _ _ _ _ _ _ _ _ _ _ T105 (mkF m 80 #[.val (.int mk), .val (.int x1), .val (.int x2), .val (.int x3), .val (.int tl), .val (.int ps), .val (.int ch), .unset, .unset, .unset, .unset, .unset, .unset, .unset] [(.int ps), (.int mk), (.int (4 : Int32)), (.int (4 : Int32)), (.ref x101), (.ref x101)])
    refine Run.via (fun _ => XS.iload X105.at X105.ex rfl (X105.de at_80) rfl) ?_
    show Run _ _ _ _ _ _ _ _ _ _ _ _ _ T105 (mkF m 82 #[.val (.int mk), .val (.int x1), .val (.int x2), .val (.int x3), .val (.int tl), .val (.int ps), .val (.int ch), .unset, .unset, .unset, .unset, .unset, .unset, .unset] [(.int ch), (.int ps), (.int mk), (.int (4 : Int32)), (.int (4 : Int32)), (.ref x101), (.ref x101)])
    refine Run.via (fun _ => XS.iload X105.at X105.ex rfl (X105.de at_82) rfl) ?_
    show Run _ _ _ _ _ _ _ _ _ _ _ _ _ T105 (mkF m 84 #[.val (.int mk), .val (.int x1), .val (.int x2), .val (.int x3), .val (.int tl), .val (.int ps), .val (.int ch), .unset, .unset, .unset, .unset, .unset, .unset, .unset] [(.int tl), (.int ch), (.int ps), (.int mk), (.int (4 : Int32)), (.int (4 : Int32)), (.ref x101), (.ref x101)])
    refine Run.callS X105 (y := (⟨"com/example/veneer/veneer/ServiceIriIsServiceIriPinLaw", "at", "(IIICI)C"⟩ : MethodName)) (W := 3) (con_aK l hw hS (i := 4) SL3 (by decide) rc X105.old) (wd hw 1 rfl) (wd hw 2 rfl) (wd hw 3 rfl) (wd hw 4 rfl) (by decide) pd__IIICI_C rfl (argsL := [(.int (4 : Int32)), (.int mk), (.int ps), (.int ch), (.int tl)]) (rest := [(.int (4 : Int32)), (.ref x101), (.ref x101)]) rfl (Nat.le_of_ble_eq_true rfl) rfl at_84 (by decide) (by decide) (Nat.le_of_ble_eq_true rfl) (Nat.le_of_ble_eq_true rfl) (nofun) (nofun) ?_
    intro v106 T106 h106 L106 q106 X106 XF106 XK106 K106
    obtain ⟨d4, rfl, t4⟩ := q106
    show Run _ _ _ _ _ _ _ _ _ _ _ _ _ T106 (mkF m 87 #[.val (.int mk), .val (.int x1), .val (.int x2), .val (.int x3), .val (.int tl), .val (.int ps), .val (.int ch), .unset, .unset, .unset, .unset, .unset, .unset, .unset] [(.int d4), (.int (4 : Int32)), (.ref x101), (.ref x101)])
    have A106x := A105.keep K106 nin0
    have SK4 := SL3.keep K106
    have u4 := X106.kp.1
    have ul4 := A106x.lt
    refine Run.castore X106 (i := 4) (v' := d4) A106x rfl (Nat.le_of_ble_eq_true rfl) (nar_lat t4.2.2) (Or.inr (by omega)) (by omega) at_87 ?_
    intro T107 h107 L107 X107 K107 z107 A107
    have A107 : Arc .char Z h107 x101 [d0, d1, d2, d3, d4, (0 : Int32), (0 : Int32), (0 : Int32), (0 : Int32), (0 : Int32), (0 : Int32), (0 : Int32), (0 : Int32), (0 : Int32), (0 : Int32), (0 : Int32), (0 : Int32), (0 : Int32), (0 : Int32), (0 : Int32)] := A107
    show Run _ _ _ _ _ _ _ _ _ _ _ _ _ T107 (mkF m 88 #[.val (.int mk), .val (.int x1), .val (.int x2), .val (.int x3), .val (.int tl), .val (.int ps), .val (.int ch), .unset, .unset, .unset, .unset, .unset, .unset, .unset] [(.ref x101)])
    have SL4 := SK4.keepC A106x K107 (wd hw 10 rfl)
    refine Run.via (fun _ => XS.dup X107.at X107.ex rfl (X107.de at_88) rfl rfl) ?_
    show Run _ _ _ _ _ _ _ _ _ _ _ _ _ T107 (mkF m 89 #[.val (.int mk), .val (.int x1), .val (.int x2), .val (.int x3), .val (.int tl), .val (.int ps), .val (.int ch), .unset, .unset, .unset, .unset, .unset, .unset, .unset] [(.ref x101), (.ref x101)])
    refine Run.via (fun _ => XS.iconst X107.at X107.ex rfl (X107.de at_89)) ?_
    show Run _ _ _ _ _ _ _ _ _ _ _ _ _ T107 (mkF m 90 #[.val (.int mk), .val (.int x1), .val (.int x2), .val (.int x3), .val (.int tl), .val (.int ps), .val (.int ch), .unset, .unset, .unset, .unset, .unset, .unset, .unset] [(.int (5 : Int32)), (.ref x101), (.ref x101)])
    refine Run.via (fun _ => XS.iconst X107.at X107.ex rfl (X107.de at_90)) ?_
    show Run _ _ _ _ _ _ _ _ _ _ _ _ _ T107 (mkF m 91 #[.val (.int mk), .val (.int x1), .val (.int x2), .val (.int x3), .val (.int tl), .val (.int ps), .val (.int ch), .unset, .unset, .unset, .unset, .unset, .unset, .unset] [(.int (5 : Int32)), (.int (5 : Int32)), (.ref x101), (.ref x101)])
    refine Run.via (fun _ => XS.iloadN X107.at X107.ex rfl (X107.de at_91) rfl) ?_
    show Run _ _ _ _ _ _ _ _ _ _ _ _ _ T107 (mkF m 92 #[.val (.int mk), .val (.int x1), .val (.int x2), .val (.int x3), .val (.int tl), .val (.int ps), .val (.int ch), .unset, .unset, .unset, .unset, .unset, .unset, .unset] [(.int mk), (.int (5 : Int32)), (.int (5 : Int32)), (.ref x101), (.ref x101)])
    refine Run.via (fun _ => XS.iload X107.at X107.ex rfl (X107.de at_92) rfl) ?_
    show Run _ _ _ _ _ _ _ _ _ _ _ _ _ T107 (mkF m 94 #[.val (.int mk), .val (.int x1), .val (.int x2), .val (.int x3), .val (.int tl), .val (.int ps), .val (.int ch), .unset, .unset, .unset, .unset, .unset, .unset, .unset] [(.int ps), (.int mk), (.int (5 : Int32)), (.int (5 : Int32)), (.ref x101), (.ref x101)])
    refine Run.via (fun _ => XS.iload X107.at X107.ex rfl (X107.de at_94) rfl) ?_
    show Run _ _ _ _ _ _ _ _ _ _ _ _ _ T107 (mkF m 96 #[.val (.int mk), .val (.int x1), .val (.int x2), .val (.int x3), .val (.int tl), .val (.int ps), .val (.int ch), .unset, .unset, .unset, .unset, .unset, .unset, .unset] [(.int ch), (.int ps), (.int mk), (.int (5 : Int32)), (.int (5 : Int32)), (.ref x101), (.ref x101)])
    refine Run.via (fun _ => XS.iload X107.at X107.ex rfl (X107.de at_96) rfl) ?_
    show Run _ _ _ _ _ _ _ _ _ _ _ _ _ T107 (mkF m 98 #[.val (.int mk), .val (.int x1), .val (.int x2), .val (.int x3), .val (.int tl), .val (.int ps), .val (.int ch), .unset, .unset, .unset, .unset, .unset, .unset, .unset] [(.int tl), (.int ch), (.int ps), (.int mk), (.int (5 : Int32)), (.int (5 : Int32)), (.ref x101), (.ref x101)])
    refine Run.callS X107 (y := (⟨"com/example/veneer/veneer/ServiceIriIsServiceIriPinLaw", "at", "(IIICI)C"⟩ : MethodName)) (W := 3) (con_aK l hw hS (i := 5) SL4 (by decide) rc X107.old) (wd hw 1 rfl) (wd hw 2 rfl) (wd hw 3 rfl) (wd hw 4 rfl) (by decide) pd__IIICI_C rfl (argsL := [(.int (5 : Int32)), (.int mk), (.int ps), (.int ch), (.int tl)]) (rest := [(.int (5 : Int32)), (.ref x101), (.ref x101)]) rfl (Nat.le_of_ble_eq_true rfl) rfl at_98 (by decide) (by decide) (Nat.le_of_ble_eq_true rfl) (Nat.le_of_ble_eq_true rfl) (nofun) (nofun) ?_
    intro v108 T108 h108 L108 q108 X108 XF108 XK108 K108
    obtain ⟨d5, rfl, t5⟩ := q108
    show Run _ _ _ _ _ _ _ _ _ _ _ _ _ T108 (mkF m 101 #[.val (.int mk), .val (.int x1), .val (.int x2), .val (.int x3), .val (.int tl), .val (.int ps), .val (.int ch), .unset, .unset, .unset, .unset, .unset, .unset, .unset] [(.int d5), (.int (5 : Int32)), (.ref x101), (.ref x101)])
    have A108x := A107.keep K108 nin0
    have SK5 := SL4.keep K108
    have u5 := X108.kp.1
    have ul5 := A108x.lt
    refine Run.castore X108 (i := 5) (v' := d5) A108x rfl (Nat.le_of_ble_eq_true rfl) (nar_lat t5.2.2) (Or.inr (by omega)) (by omega) at_101 ?_
    intro T109 h109 L109 X109 K109 z109 A109
    have A109 : Arc .char Z h109 x101 [d0, d1, d2, d3, d4, d5, (0 : Int32), (0 : Int32), (0 : Int32), (0 : Int32), (0 : Int32), (0 : Int32), (0 : Int32), (0 : Int32), (0 : Int32), (0 : Int32), (0 : Int32), (0 : Int32), (0 : Int32), (0 : Int32)] := A109
    show Run _ _ _ _ _ _ _ _ _ _ _ _ _ T109 (mkF m 102 #[.val (.int mk), .val (.int x1), .val (.int x2), .val (.int x3), .val (.int tl), .val (.int ps), .val (.int ch), .unset, .unset, .unset, .unset, .unset, .unset, .unset] [(.ref x101)])
    have SL5 := SK5.keepC A108x K109 (wd hw 10 rfl)
    refine Run.via (fun _ => XS.dup X109.at X109.ex rfl (X109.de at_102) rfl rfl) ?_
    show Run _ _ _ _ _ _ _ _ _ _ _ _ _ T109 (mkF m 103 #[.val (.int mk), .val (.int x1), .val (.int x2), .val (.int x3), .val (.int tl), .val (.int ps), .val (.int ch), .unset, .unset, .unset, .unset, .unset, .unset, .unset] [(.ref x101), (.ref x101)])
    refine Run.via (fun _ => XS.bipush X109.at X109.ex rfl (X109.de at_103)) ?_
    show Run _ _ _ _ _ _ _ _ _ _ _ _ _ T109 (mkF m 105 #[.val (.int mk), .val (.int x1), .val (.int x2), .val (.int x3), .val (.int tl), .val (.int ps), .val (.int ch), .unset, .unset, .unset, .unset, .unset, .unset, .unset] [(.int (6 : Int32)), (.ref x101), (.ref x101)])
    refine Run.via (fun _ => XS.bipush X109.at X109.ex rfl (X109.de at_105)) ?_
    show Run _ _ _ _ _ _ _ _ _ _ _ _ _ T109 (mkF m 107 #[.val (.int mk), .val (.int x1), .val (.int x2), .val (.int x3), .val (.int tl), .val (.int ps), .val (.int ch), .unset, .unset, .unset, .unset, .unset, .unset, .unset] [(.int (6 : Int32)), (.int (6 : Int32)), (.ref x101), (.ref x101)])
    refine Run.via (fun _ => XS.iloadN X109.at X109.ex rfl (X109.de at_107) rfl) ?_
    show Run _ _ _ _ _ _ _ _ _ _ _ _ _ T109 (mkF m 108 #[.val (.int mk), .val (.int x1), .val (.int x2), .val (.int x3), .val (.int tl), .val (.int ps), .val (.int ch), .unset, .unset, .unset, .unset, .unset, .unset, .unset] [(.int mk), (.int (6 : Int32)), (.int (6 : Int32)), (.ref x101), (.ref x101)])
    refine Run.via (fun _ => XS.iload X109.at X109.ex rfl (X109.de at_108) rfl) ?_
    show Run _ _ _ _ _ _ _ _ _ _ _ _ _ T109 (mkF m 110 #[.val (.int mk), .val (.int x1), .val (.int x2), .val (.int x3), .val (.int tl), .val (.int ps), .val (.int ch), .unset, .unset, .unset, .unset, .unset, .unset, .unset] [(.int ps), (.int mk), (.int (6 : Int32)), (.int (6 : Int32)), (.ref x101), (.ref x101)])
    refine Run.via (fun _ => XS.iload X109.at X109.ex rfl (X109.de at_110) rfl) ?_
    show Run _ _ _ _ _ _ _ _ _ _ _ _ _ T109 (mkF m 112 #[.val (.int mk), .val (.int x1), .val (.int x2), .val (.int x3), .val (.int tl), .val (.int ps), .val (.int ch), .unset, .unset, .unset, .unset, .unset, .unset, .unset] [(.int ch), (.int ps), (.int mk), (.int (6 : Int32)), (.int (6 : Int32)), (.ref x101), (.ref x101)])
    refine Run.via (fun _ => XS.iload X109.at X109.ex rfl (X109.de at_112) rfl) ?_
    show Run _ _ _ _ _ _ _ _ _ _ _ _ _ T109 (mkF m 114 #[.val (.int mk), .val (.int x1), .val (.int x2), .val (.int x3), .val (.int tl), .val (.int ps), .val (.int ch), .unset, .unset, .unset, .unset, .unset, .unset, .unset] [(.int tl), (.int ch), (.int ps), (.int mk), (.int (6 : Int32)), (.int (6 : Int32)), (.ref x101), (.ref x101)])
    refine Run.callS X109 (y := (⟨"com/example/veneer/veneer/ServiceIriIsServiceIriPinLaw", "at", "(IIICI)C"⟩ : MethodName)) (W := 3) (con_aK l hw hS (i := 6) SL5 (by decide) rc X109.old) (wd hw 1 rfl) (wd hw 2 rfl) (wd hw 3 rfl) (wd hw 4 rfl) (by decide) pd__IIICI_C rfl (argsL := [(.int (6 : Int32)), (.int mk), (.int ps), (.int ch), (.int tl)]) (rest := [(.int (6 : Int32)), (.ref x101), (.ref x101)]) rfl (Nat.le_of_ble_eq_true rfl) rfl at_114 (by decide) (by decide) (Nat.le_of_ble_eq_true rfl) (Nat.le_of_ble_eq_true rfl) (nofun) (nofun) ?_
    intro v110 T110 h110 L110 q110 X110 XF110 XK110 K110
    obtain ⟨d6, rfl, t6⟩ := q110
    show Run _ _ _ _ _ _ _ _ _ _ _ _ _ T110 (mkF m 117 #[.val (.int mk), .val (.int x1), .val (.int x2), .val (.int x3), .val (.int tl), .val (.int ps), .val (.int ch), .unset, .unset, .unset, .unset, .unset, .unset, .unset] [(.int d6), (.int (6 : Int32)), (.ref x101), (.ref x101)])
    have A110x := A109.keep K110 nin0
    have SK6 := SL5.keep K110
    have u6 := X110.kp.1
    have ul6 := A110x.lt
    refine Run.castore X110 (i := 6) (v' := d6) A110x rfl (Nat.le_of_ble_eq_true rfl) (nar_lat t6.2.2) (Or.inr (by omega)) (by omega) at_117 ?_
    intro T111 h111 L111 X111 K111 z111 A111
    have A111 : Arc .char Z h111 x101 [d0, d1, d2, d3, d4, d5, d6, (0 : Int32), (0 : Int32), (0 : Int32), (0 : Int32), (0 : Int32), (0 : Int32), (0 : Int32), (0 : Int32), (0 : Int32), (0 : Int32), (0 : Int32), (0 : Int32), (0 : Int32)] := A111
    show Run _ _ _ _ _ _ _ _ _ _ _ _ _ T111 (mkF m 118 #[.val (.int mk), .val (.int x1), .val (.int x2), .val (.int x3), .val (.int tl), .val (.int ps), .val (.int ch), .unset, .unset, .unset, .unset, .unset, .unset, .unset] [(.ref x101)])
    have SL6 := SK6.keepC A110x K111 (wd hw 10 rfl)
    refine Run.via (fun _ => XS.dup X111.at X111.ex rfl (X111.de at_118) rfl rfl) ?_
    show Run _ _ _ _ _ _ _ _ _ _ _ _ _ T111 (mkF m 119 #[.val (.int mk), .val (.int x1), .val (.int x2), .val (.int x3), .val (.int tl), .val (.int ps), .val (.int ch), .unset, .unset, .unset, .unset, .unset, .unset, .unset] [(.ref x101), (.ref x101)])
    refine Run.via (fun _ => XS.bipush X111.at X111.ex rfl (X111.de at_119)) ?_
    show Run _ _ _ _ _ _ _ _ _ _ _ _ _ T111 (mkF m 121 #[.val (.int mk), .val (.int x1), .val (.int x2), .val (.int x3), .val (.int tl), .val (.int ps), .val (.int ch), .unset, .unset, .unset, .unset, .unset, .unset, .unset] [(.int (7 : Int32)), (.ref x101), (.ref x101)])
    refine Run.via (fun _ => XS.bipush X111.at X111.ex rfl (X111.de at_121)) ?_
    show Run _ _ _ _ _ _ _ _ _ _ _ _ _ T111 (mkF m 123 #[.val (.int mk), .val (.int x1), .val (.int x2), .val (.int x3), .val (.int tl), .val (.int ps), .val (.int ch), .unset, .unset, .unset, .unset, .unset, .unset, .unset] [(.int (7 : Int32)), (.int (7 : Int32)), (.ref x101), (.ref x101)])
    refine Run.via (fun _ => XS.iloadN X111.at X111.ex rfl (X111.de at_123) rfl) ?_
    show Run _ _ _ _ _ _ _ _ _ _ _ _ _ T111 (mkF m 124 #[.val (.int mk), .val (.int x1), .val (.int x2), .val (.int x3), .val (.int tl), .val (.int ps), .val (.int ch), .unset, .unset, .unset, .unset, .unset, .unset, .unset] [(.int mk), (.int (7 : Int32)), (.int (7 : Int32)), (.ref x101), (.ref x101)])
    refine Run.via (fun _ => XS.iload X111.at X111.ex rfl (X111.de at_124) rfl) ?_
    show Run _ _ _ _ _ _ _ _ _ _ _ _ _ T111 (mkF m 126 #[.val (.int mk), .val (.int x1), .val (.int x2), .val (.int x3), .val (.int tl), .val (.int ps), .val (.int ch), .unset, .unset, .unset, .unset, .unset, .unset, .unset] [(.int ps), (.int mk), (.int (7 : Int32)), (.int (7 : Int32)), (.ref x101), (.ref x101)])
    refine Run.via (fun _ => XS.iload X111.at X111.ex rfl (X111.de at_126) rfl) ?_
    show Run _ _ _ _ _ _ _ _ _ _ _ _ _ T111 (mkF m 128 #[.val (.int mk), .val (.int x1), .val (.int x2), .val (.int x3), .val (.int tl), .val (.int ps), .val (.int ch), .unset, .unset, .unset, .unset, .unset, .unset, .unset] [(.int ch), (.int ps), (.int mk), (.int (7 : Int32)), (.int (7 : Int32)), (.ref x101), (.ref x101)])
    refine Run.via (fun _ => XS.iload X111.at X111.ex rfl (X111.de at_128) rfl) ?_
    show Run _ _ _ _ _ _ _ _ _ _ _ _ _ T111 (mkF m 130 #[.val (.int mk), .val (.int x1), .val (.int x2), .val (.int x3), .val (.int tl), .val (.int ps), .val (.int ch), .unset, .unset, .unset, .unset, .unset, .unset, .unset] [(.int tl), (.int ch), (.int ps), (.int mk), (.int (7 : Int32)), (.int (7 : Int32)), (.ref x101), (.ref x101)])
    refine Run.callS X111 (y := (⟨"com/example/veneer/veneer/ServiceIriIsServiceIriPinLaw", "at", "(IIICI)C"⟩ : MethodName)) (W := 3) (con_aK l hw hS (i := 7) SL6 (by decide) rc X111.old) (wd hw 1 rfl) (wd hw 2 rfl) (wd hw 3 rfl) (wd hw 4 rfl) (by decide) pd__IIICI_C rfl (argsL := [(.int (7 : Int32)), (.int mk), (.int ps), (.int ch), (.int tl)]) (rest := [(.int (7 : Int32)), (.ref x101), (.ref x101)]) rfl (Nat.le_of_ble_eq_true rfl) rfl at_130 (by decide) (by decide) (Nat.le_of_ble_eq_true rfl) (Nat.le_of_ble_eq_true rfl) (nofun) (nofun) ?_
    intro v112 T112 h112 L112 q112 X112 XF112 XK112 K112
    obtain ⟨d7, rfl, t7⟩ := q112
    show Run _ _ _ _ _ _ _ _ _ _ _ _ _ T112 (mkF m 133 #[.val (.int mk), .val (.int x1), .val (.int x2), .val (.int x3), .val (.int tl), .val (.int ps), .val (.int ch), .unset, .unset, .unset, .unset, .unset, .unset, .unset] [(.int d7), (.int (7 : Int32)), (.ref x101), (.ref x101)])
    have A112x := A111.keep K112 nin0
    have SK7 := SL6.keep K112
    have u7 := X112.kp.1
    have ul7 := A112x.lt
    refine Run.castore X112 (i := 7) (v' := d7) A112x rfl (Nat.le_of_ble_eq_true rfl) (nar_lat t7.2.2) (Or.inr (by omega)) (by omega) at_133 ?_
    intro T113 h113 L113 X113 K113 z113 A113
    have A113 : Arc .char Z h113 x101 [d0, d1, d2, d3, d4, d5, d6, d7, (0 : Int32), (0 : Int32), (0 : Int32), (0 : Int32), (0 : Int32), (0 : Int32), (0 : Int32), (0 : Int32), (0 : Int32), (0 : Int32), (0 : Int32), (0 : Int32)] := A113
    show Run _ _ _ _ _ _ _ _ _ _ _ _ _ T113 (mkF m 134 #[.val (.int mk), .val (.int x1), .val (.int x2), .val (.int x3), .val (.int tl), .val (.int ps), .val (.int ch), .unset, .unset, .unset, .unset, .unset, .unset, .unset] [(.ref x101)])
    have SL7 := SK7.keepC A112x K113 (wd hw 10 rfl)
    refine Run.via (fun _ => XS.dup X113.at X113.ex rfl (X113.de at_134) rfl rfl) ?_
    show Run _ _ _ _ _ _ _ _ _ _ _ _ _ T113 (mkF m 135 #[.val (.int mk), .val (.int x1), .val (.int x2), .val (.int x3), .val (.int tl), .val (.int ps), .val (.int ch), .unset, .unset, .unset, .unset, .unset, .unset, .unset] [(.ref x101), (.ref x101)])
    refine Run.via (fun _ => XS.bipush X113.at X113.ex rfl (X113.de at_135)) ?_
    show Run _ _ _ _ _ _ _ _ _ _ _ _ _ T113 (mkF m 137 #[.val (.int mk), .val (.int x1), .val (.int x2), .val (.int x3), .val (.int tl), .val (.int ps), .val (.int ch), .unset, .unset, .unset, .unset, .unset, .unset, .unset] [(.int (8 : Int32)), (.ref x101), (.ref x101)])
    refine Run.via (fun _ => XS.bipush X113.at X113.ex rfl (X113.de at_137)) ?_
    show Run _ _ _ _ _ _ _ _ _ _ _ _ _ T113 (mkF m 139 #[.val (.int mk), .val (.int x1), .val (.int x2), .val (.int x3), .val (.int tl), .val (.int ps), .val (.int ch), .unset, .unset, .unset, .unset, .unset, .unset, .unset] [(.int (8 : Int32)), (.int (8 : Int32)), (.ref x101), (.ref x101)])
    refine Run.via (fun _ => XS.iloadN X113.at X113.ex rfl (X113.de at_139) rfl) ?_
    show Run _ _ _ _ _ _ _ _ _ _ _ _ _ T113 (mkF m 140 #[.val (.int mk), .val (.int x1), .val (.int x2), .val (.int x3), .val (.int tl), .val (.int ps), .val (.int ch), .unset, .unset, .unset, .unset, .unset, .unset, .unset] [(.int mk), (.int (8 : Int32)), (.int (8 : Int32)), (.ref x101), (.ref x101)])
    refine Run.via (fun _ => XS.iload X113.at X113.ex rfl (X113.de at_140) rfl) ?_
    show Run _ _ _ _ _ _ _ _ _ _ _ _ _ T113 (mkF m 142 #[.val (.int mk), .val (.int x1), .val (.int x2), .val (.int x3), .val (.int tl), .val (.int ps), .val (.int ch), .unset, .unset, .unset, .unset, .unset, .unset, .unset] [(.int ps), (.int mk), (.int (8 : Int32)), (.int (8 : Int32)), (.ref x101), (.ref x101)])
    refine Run.via (fun _ => XS.iload X113.at X113.ex rfl (X113.de at_142) rfl) ?_
    show Run _ _ _ _ _ _ _ _ _ _ _ _ _ T113 (mkF m 144 #[.val (.int mk), .val (.int x1), .val (.int x2), .val (.int x3), .val (.int tl), .val (.int ps), .val (.int ch), .unset, .unset, .unset, .unset, .unset, .unset, .unset] [(.int ch), (.int ps), (.int mk), (.int (8 : Int32)), (.int (8 : Int32)), (.ref x101), (.ref x101)])
    refine Run.via (fun _ => XS.iload X113.at X113.ex rfl (X113.de at_144) rfl) ?_
    show Run _ _ _ _ _ _ _ _ _ _ _ _ _ T113 (mkF m 146 #[.val (.int mk), .val (.int x1), .val (.int x2), .val (.int x3), .val (.int tl), .val (.int ps), .val (.int ch), .unset, .unset, .unset, .unset, .unset, .unset, .unset] [(.int tl), (.int ch), (.int ps), (.int mk), (.int (8 : Int32)), (.int (8 : Int32)), (.ref x101), (.ref x101)])
    refine Run.callS X113 (y := (⟨"com/example/veneer/veneer/ServiceIriIsServiceIriPinLaw", "at", "(IIICI)C"⟩ : MethodName)) (W := 3) (con_aK l hw hS (i := 8) SL7 (by decide) rc X113.old) (wd hw 1 rfl) (wd hw 2 rfl) (wd hw 3 rfl) (wd hw 4 rfl) (by decide) pd__IIICI_C rfl (argsL := [(.int (8 : Int32)), (.int mk), (.int ps), (.int ch), (.int tl)]) (rest := [(.int (8 : Int32)), (.ref x101), (.ref x101)]) rfl (Nat.le_of_ble_eq_true rfl) rfl at_146 (by decide) (by decide) (Nat.le_of_ble_eq_true rfl) (Nat.le_of_ble_eq_true rfl) (nofun) (nofun) ?_
    intro v114 T114 h114 L114 q114 X114 XF114 XK114 K114
    obtain ⟨d8, rfl, t8⟩ := q114
    show Run _ _ _ _ _ _ _ _ _ _ _ _ _ T114 (mkF m 149 #[.val (.int mk), .val (.int x1), .val (.int x2), .val (.int x3), .val (.int tl), .val (.int ps), .val (.int ch), .unset, .unset, .unset, .unset, .unset, .unset, .unset] [(.int d8), (.int (8 : Int32)), (.ref x101), (.ref x101)])
    have A114x := A113.keep K114 nin0
    have SK8 := SL7.keep K114
    have u8 := X114.kp.1
    have ul8 := A114x.lt
    refine Run.castore X114 (i := 8) (v' := d8) A114x rfl (Nat.le_of_ble_eq_true rfl) (nar_lat t8.2.2) (Or.inr (by omega)) (by omega) at_149 ?_
    intro T115 h115 L115 X115 K115 z115 A115
    have A115 : Arc .char Z h115 x101 [d0, d1, d2, d3, d4, d5, d6, d7, d8, (0 : Int32), (0 : Int32), (0 : Int32), (0 : Int32), (0 : Int32), (0 : Int32), (0 : Int32), (0 : Int32), (0 : Int32), (0 : Int32), (0 : Int32)] := A115
    show Run _ _ _ _ _ _ _ _ _ _ _ _ _ T115 (mkF m 150 #[.val (.int mk), .val (.int x1), .val (.int x2), .val (.int x3), .val (.int tl), .val (.int ps), .val (.int ch), .unset, .unset, .unset, .unset, .unset, .unset, .unset] [(.ref x101)])
    have SL8 := SK8.keepC A114x K115 (wd hw 10 rfl)
    refine Run.via (fun _ => XS.dup X115.at X115.ex rfl (X115.de at_150) rfl rfl) ?_
    show Run _ _ _ _ _ _ _ _ _ _ _ _ _ T115 (mkF m 151 #[.val (.int mk), .val (.int x1), .val (.int x2), .val (.int x3), .val (.int tl), .val (.int ps), .val (.int ch), .unset, .unset, .unset, .unset, .unset, .unset, .unset] [(.ref x101), (.ref x101)])
    refine Run.via (fun _ => XS.bipush X115.at X115.ex rfl (X115.de at_151)) ?_
    show Run _ _ _ _ _ _ _ _ _ _ _ _ _ T115 (mkF m 153 #[.val (.int mk), .val (.int x1), .val (.int x2), .val (.int x3), .val (.int tl), .val (.int ps), .val (.int ch), .unset, .unset, .unset, .unset, .unset, .unset, .unset] [(.int (9 : Int32)), (.ref x101), (.ref x101)])
    refine Run.via (fun _ => XS.bipush X115.at X115.ex rfl (X115.de at_153)) ?_
    show Run _ _ _ _ _ _ _ _ _ _ _ _ _ T115 (mkF m 155 #[.val (.int mk), .val (.int x1), .val (.int x2), .val (.int x3), .val (.int tl), .val (.int ps), .val (.int ch), .unset, .unset, .unset, .unset, .unset, .unset, .unset] [(.int (9 : Int32)), (.int (9 : Int32)), (.ref x101), (.ref x101)])
    refine Run.via (fun _ => XS.iloadN X115.at X115.ex rfl (X115.de at_155) rfl) ?_
    show Run _ _ _ _ _ _ _ _ _ _ _ _ _ T115 (mkF m 156 #[.val (.int mk), .val (.int x1), .val (.int x2), .val (.int x3), .val (.int tl), .val (.int ps), .val (.int ch), .unset, .unset, .unset, .unset, .unset, .unset, .unset] [(.int mk), (.int (9 : Int32)), (.int (9 : Int32)), (.ref x101), (.ref x101)])
    refine Run.via (fun _ => XS.iload X115.at X115.ex rfl (X115.de at_156) rfl) ?_
    show Run _ _ _ _ _ _ _ _ _ _ _ _ _ T115 (mkF m 158 #[.val (.int mk), .val (.int x1), .val (.int x2), .val (.int x3), .val (.int tl), .val (.int ps), .val (.int ch), .unset, .unset, .unset, .unset, .unset, .unset, .unset] [(.int ps), (.int mk), (.int (9 : Int32)), (.int (9 : Int32)), (.ref x101), (.ref x101)])
    refine Run.via (fun _ => XS.iload X115.at X115.ex rfl (X115.de at_158) rfl) ?_
    show Run _ _ _ _ _ _ _ _ _ _ _ _ _ T115 (mkF m 160 #[.val (.int mk), .val (.int x1), .val (.int x2), .val (.int x3), .val (.int tl), .val (.int ps), .val (.int ch), .unset, .unset, .unset, .unset, .unset, .unset, .unset] [(.int ch), (.int ps), (.int mk), (.int (9 : Int32)), (.int (9 : Int32)), (.ref x101), (.ref x101)])
    refine Run.via (fun _ => XS.iload X115.at X115.ex rfl (X115.de at_160) rfl) ?_
    show Run _ _ _ _ _ _ _ _ _ _ _ _ _ T115 (mkF m 162 #[.val (.int mk), .val (.int x1), .val (.int x2), .val (.int x3), .val (.int tl), .val (.int ps), .val (.int ch), .unset, .unset, .unset, .unset, .unset, .unset, .unset] [(.int tl), (.int ch), (.int ps), (.int mk), (.int (9 : Int32)), (.int (9 : Int32)), (.ref x101), (.ref x101)])
    refine Run.callS X115 (y := (⟨"com/example/veneer/veneer/ServiceIriIsServiceIriPinLaw", "at", "(IIICI)C"⟩ : MethodName)) (W := 3) (con_aK l hw hS (i := 9) SL8 (by decide) rc X115.old) (wd hw 1 rfl) (wd hw 2 rfl) (wd hw 3 rfl) (wd hw 4 rfl) (by decide) pd__IIICI_C rfl (argsL := [(.int (9 : Int32)), (.int mk), (.int ps), (.int ch), (.int tl)]) (rest := [(.int (9 : Int32)), (.ref x101), (.ref x101)]) rfl (Nat.le_of_ble_eq_true rfl) rfl at_162 (by decide) (by decide) (Nat.le_of_ble_eq_true rfl) (Nat.le_of_ble_eq_true rfl) (nofun) (nofun) ?_
    intro v116 T116 h116 L116 q116 X116 XF116 XK116 K116
    obtain ⟨d9, rfl, t9⟩ := q116
    show Run _ _ _ _ _ _ _ _ _ _ _ _ _ T116 (mkF m 165 #[.val (.int mk), .val (.int x1), .val (.int x2), .val (.int x3), .val (.int tl), .val (.int ps), .val (.int ch), .unset, .unset, .unset, .unset, .unset, .unset, .unset] [(.int d9), (.int (9 : Int32)), (.ref x101), (.ref x101)])
    have A116x := A115.keep K116 nin0
    have SK9 := SL8.keep K116
    have u9 := X116.kp.1
    have ul9 := A116x.lt
    refine Run.castore X116 (i := 9) (v' := d9) A116x rfl (Nat.le_of_ble_eq_true rfl) (nar_lat t9.2.2) (Or.inr (by omega)) (by omega) at_165 ?_
    intro T117 h117 L117 X117 K117 z117 A117
    have A117 : Arc .char Z h117 x101 [d0, d1, d2, d3, d4, d5, d6, d7, d8, d9, (0 : Int32), (0 : Int32), (0 : Int32), (0 : Int32), (0 : Int32), (0 : Int32), (0 : Int32), (0 : Int32), (0 : Int32), (0 : Int32)] := A117
    show Run _ _ _ _ _ _ _ _ _ _ _ _ _ T117 (mkF m 166 #[.val (.int mk), .val (.int x1), .val (.int x2), .val (.int x3), .val (.int tl), .val (.int ps), .val (.int ch), .unset, .unset, .unset, .unset, .unset, .unset, .unset] [(.ref x101)])
    have SL9 := SK9.keepC A116x K117 (wd hw 10 rfl)
    refine Run.via (fun _ => XS.dup X117.at X117.ex rfl (X117.de at_166) rfl rfl) ?_
    show Run _ _ _ _ _ _ _ _ _ _ _ _ _ T117 (mkF m 167 #[.val (.int mk), .val (.int x1), .val (.int x2), .val (.int x3), .val (.int tl), .val (.int ps), .val (.int ch), .unset, .unset, .unset, .unset, .unset, .unset, .unset] [(.ref x101), (.ref x101)])
    refine Run.via (fun _ => XS.bipush X117.at X117.ex rfl (X117.de at_167)) ?_
    show Run _ _ _ _ _ _ _ _ _ _ _ _ _ T117 (mkF m 169 #[.val (.int mk), .val (.int x1), .val (.int x2), .val (.int x3), .val (.int tl), .val (.int ps), .val (.int ch), .unset, .unset, .unset, .unset, .unset, .unset, .unset] [(.int (10 : Int32)), (.ref x101), (.ref x101)])
    refine Run.via (fun _ => XS.bipush X117.at X117.ex rfl (X117.de at_169)) ?_
    show Run _ _ _ _ _ _ _ _ _ _ _ _ _ T117 (mkF m 171 #[.val (.int mk), .val (.int x1), .val (.int x2), .val (.int x3), .val (.int tl), .val (.int ps), .val (.int ch), .unset, .unset, .unset, .unset, .unset, .unset, .unset] [(.int (10 : Int32)), (.int (10 : Int32)), (.ref x101), (.ref x101)])
    refine Run.via (fun _ => XS.iloadN X117.at X117.ex rfl (X117.de at_171) rfl) ?_
    show Run _ _ _ _ _ _ _ _ _ _ _ _ _ T117 (mkF m 172 #[.val (.int mk), .val (.int x1), .val (.int x2), .val (.int x3), .val (.int tl), .val (.int ps), .val (.int ch), .unset, .unset, .unset, .unset, .unset, .unset, .unset] [(.int mk), (.int (10 : Int32)), (.int (10 : Int32)), (.ref x101), (.ref x101)])
    refine Run.via (fun _ => XS.iload X117.at X117.ex rfl (X117.de at_172) rfl) ?_
    show Run _ _ _ _ _ _ _ _ _ _ _ _ _ T117 (mkF m 174 #[.val (.int mk), .val (.int x1), .val (.int x2), .val (.int x3), .val (.int tl), .val (.int ps), .val (.int ch), .unset, .unset, .unset, .unset, .unset, .unset, .unset] [(.int ps), (.int mk), (.int (10 : Int32)), (.int (10 : Int32)), (.ref x101), (.ref x101)])
    refine Run.via (fun _ => XS.iload X117.at X117.ex rfl (X117.de at_174) rfl) ?_
    show Run _ _ _ _ _ _ _ _ _ _ _ _ _ T117 (mkF m 176 #[.val (.int mk), .val (.int x1), .val (.int x2), .val (.int x3), .val (.int tl), .val (.int ps), .val (.int ch), .unset, .unset, .unset, .unset, .unset, .unset, .unset] [(.int ch), (.int ps), (.int mk), (.int (10 : Int32)), (.int (10 : Int32)), (.ref x101), (.ref x101)])
    refine Run.via (fun _ => XS.iload X117.at X117.ex rfl (X117.de at_176) rfl) ?_
    show Run _ _ _ _ _ _ _ _ _ _ _ _ _ T117 (mkF m 178 #[.val (.int mk), .val (.int x1), .val (.int x2), .val (.int x3), .val (.int tl), .val (.int ps), .val (.int ch), .unset, .unset, .unset, .unset, .unset, .unset, .unset] [(.int tl), (.int ch), (.int ps), (.int mk), (.int (10 : Int32)), (.int (10 : Int32)), (.ref x101), (.ref x101)])
    refine Run.callS X117 (y := (⟨"com/example/veneer/veneer/ServiceIriIsServiceIriPinLaw", "at", "(IIICI)C"⟩ : MethodName)) (W := 3) (con_aK l hw hS (i := 10) SL9 (by decide) rc X117.old) (wd hw 1 rfl) (wd hw 2 rfl) (wd hw 3 rfl) (wd hw 4 rfl) (by decide) pd__IIICI_C rfl (argsL := [(.int (10 : Int32)), (.int mk), (.int ps), (.int ch), (.int tl)]) (rest := [(.int (10 : Int32)), (.ref x101), (.ref x101)]) rfl (Nat.le_of_ble_eq_true rfl) rfl at_178 (by decide) (by decide) (Nat.le_of_ble_eq_true rfl) (Nat.le_of_ble_eq_true rfl) (nofun) (nofun) ?_
    intro v118 T118 h118 L118 q118 X118 XF118 XK118 K118
    obtain ⟨d10, rfl, t10⟩ := q118
    show Run _ _ _ _ _ _ _ _ _ _ _ _ _ T118 (mkF m 181 #[.val (.int mk), .val (.int x1), .val (.int x2), .val (.int x3), .val (.int tl), .val (.int ps), .val (.int ch), .unset, .unset, .unset, .unset, .unset, .unset, .unset] [(.int d10), (.int (10 : Int32)), (.ref x101), (.ref x101)])
    have A118x := A117.keep K118 nin0
    have SK10 := SL9.keep K118
    have u10 := X118.kp.1
    have ul10 := A118x.lt
    refine Run.castore X118 (i := 10) (v' := d10) A118x rfl (Nat.le_of_ble_eq_true rfl) (nar_lat t10.2.2) (Or.inr (by omega)) (by omega) at_181 ?_
    intro T119 h119 L119 X119 K119 z119 A119
    have A119 : Arc .char Z h119 x101 [d0, d1, d2, d3, d4, d5, d6, d7, d8, d9, d10, (0 : Int32), (0 : Int32), (0 : Int32), (0 : Int32), (0 : Int32), (0 : Int32), (0 : Int32), (0 : Int32), (0 : Int32)] := A119
    show Run _ _ _ _ _ _ _ _ _ _ _ _ _ T119 (mkF m 182 #[.val (.int mk), .val (.int x1), .val (.int x2), .val (.int x3), .val (.int tl), .val (.int ps), .val (.int ch), .unset, .unset, .unset, .unset, .unset, .unset, .unset] [(.ref x101)])
    have SL10 := SK10.keepC A118x K119 (wd hw 10 rfl)
    refine Run.via (fun _ => XS.dup X119.at X119.ex rfl (X119.de at_182) rfl rfl) ?_
    show Run _ _ _ _ _ _ _ _ _ _ _ _ _ T119 (mkF m 183 #[.val (.int mk), .val (.int x1), .val (.int x2), .val (.int x3), .val (.int tl), .val (.int ps), .val (.int ch), .unset, .unset, .unset, .unset, .unset, .unset, .unset] [(.ref x101), (.ref x101)])
    refine Run.via (fun _ => XS.bipush X119.at X119.ex rfl (X119.de at_183)) ?_
    show Run _ _ _ _ _ _ _ _ _ _ _ _ _ T119 (mkF m 185 #[.val (.int mk), .val (.int x1), .val (.int x2), .val (.int x3), .val (.int tl), .val (.int ps), .val (.int ch), .unset, .unset, .unset, .unset, .unset, .unset, .unset] [(.int (11 : Int32)), (.ref x101), (.ref x101)])
    refine Run.via (fun _ => XS.bipush X119.at X119.ex rfl (X119.de at_185)) ?_
    show Run _ _ _ _ _ _ _ _ _ _ _ _ _ T119 (mkF m 187 #[.val (.int mk), .val (.int x1), .val (.int x2), .val (.int x3), .val (.int tl), .val (.int ps), .val (.int ch), .unset, .unset, .unset, .unset, .unset, .unset, .unset] [(.int (11 : Int32)), (.int (11 : Int32)), (.ref x101), (.ref x101)])
    refine Run.via (fun _ => XS.iloadN X119.at X119.ex rfl (X119.de at_187) rfl) ?_
    show Run _ _ _ _ _ _ _ _ _ _ _ _ _ T119 (mkF m 188 #[.val (.int mk), .val (.int x1), .val (.int x2), .val (.int x3), .val (.int tl), .val (.int ps), .val (.int ch), .unset, .unset, .unset, .unset, .unset, .unset, .unset] [(.int mk), (.int (11 : Int32)), (.int (11 : Int32)), (.ref x101), (.ref x101)])
    refine Run.via (fun _ => XS.iload X119.at X119.ex rfl (X119.de at_188) rfl) ?_
    show Run _ _ _ _ _ _ _ _ _ _ _ _ _ T119 (mkF m 190 #[.val (.int mk), .val (.int x1), .val (.int x2), .val (.int x3), .val (.int tl), .val (.int ps), .val (.int ch), .unset, .unset, .unset, .unset, .unset, .unset, .unset] [(.int ps), (.int mk), (.int (11 : Int32)), (.int (11 : Int32)), (.ref x101), (.ref x101)])
    refine Run.via (fun _ => XS.iload X119.at X119.ex rfl (X119.de at_190) rfl) ?_
    show Run _ _ _ _ _ _ _ _ _ _ _ _ _ T119 (mkF m 192 #[.val (.int mk), .val (.int x1), .val (.int x2), .val (.int x3), .val (.int tl), .val (.int ps), .val (.int ch), .unset, .unset, .unset, .unset, .unset, .unset, .unset] [(.int ch), (.int ps), (.int mk), (.int (11 : Int32)), (.int (11 : Int32)), (.ref x101), (.ref x101)])
    refine Run.via (fun _ => XS.iload X119.at X119.ex rfl (X119.de at_192) rfl) ?_
    show Run _ _ _ _ _ _ _ _ _ _ _ _ _ T119 (mkF m 194 #[.val (.int mk), .val (.int x1), .val (.int x2), .val (.int x3), .val (.int tl), .val (.int ps), .val (.int ch), .unset, .unset, .unset, .unset, .unset, .unset, .unset] [(.int tl), (.int ch), (.int ps), (.int mk), (.int (11 : Int32)), (.int (11 : Int32)), (.ref x101), (.ref x101)])
    refine Run.callS X119 (y := (⟨"com/example/veneer/veneer/ServiceIriIsServiceIriPinLaw", "at", "(IIICI)C"⟩ : MethodName)) (W := 3) (con_aK l hw hS (i := 11) SL10 (by decide) rc X119.old) (wd hw 1 rfl) (wd hw 2 rfl) (wd hw 3 rfl) (wd hw 4 rfl) (by decide) pd__IIICI_C rfl (argsL := [(.int (11 : Int32)), (.int mk), (.int ps), (.int ch), (.int tl)]) (rest := [(.int (11 : Int32)), (.ref x101), (.ref x101)]) rfl (Nat.le_of_ble_eq_true rfl) rfl at_194 (by decide) (by decide) (Nat.le_of_ble_eq_true rfl) (Nat.le_of_ble_eq_true rfl) (nofun) (nofun) ?_
    intro v120 T120 h120 L120 q120 X120 XF120 XK120 K120
    obtain ⟨d11, rfl, t11⟩ := q120
    show Run _ _ _ _ _ _ _ _ _ _ _ _ _ T120 (mkF m 197 #[.val (.int mk), .val (.int x1), .val (.int x2), .val (.int x3), .val (.int tl), .val (.int ps), .val (.int ch), .unset, .unset, .unset, .unset, .unset, .unset, .unset] [(.int d11), (.int (11 : Int32)), (.ref x101), (.ref x101)])
    have A120x := A119.keep K120 nin0
    have SK11 := SL10.keep K120
    have u11 := X120.kp.1
    have ul11 := A120x.lt
    refine Run.castore X120 (i := 11) (v' := d11) A120x rfl (Nat.le_of_ble_eq_true rfl) (nar_lat t11.2.2) (Or.inr (by omega)) (by omega) at_197 ?_
    intro T121 h121 L121 X121 K121 z121 A121
    have A121 : Arc .char Z h121 x101 [d0, d1, d2, d3, d4, d5, d6, d7, d8, d9, d10, d11, (0 : Int32), (0 : Int32), (0 : Int32), (0 : Int32), (0 : Int32), (0 : Int32), (0 : Int32), (0 : Int32)] := A121
    show Run _ _ _ _ _ _ _ _ _ _ _ _ _ T121 (mkF m 198 #[.val (.int mk), .val (.int x1), .val (.int x2), .val (.int x3), .val (.int tl), .val (.int ps), .val (.int ch), .unset, .unset, .unset, .unset, .unset, .unset, .unset] [(.ref x101)])
    have SL11 := SK11.keepC A120x K121 (wd hw 10 rfl)
    refine Run.via (fun _ => XS.dup X121.at X121.ex rfl (X121.de at_198) rfl rfl) ?_
    show Run _ _ _ _ _ _ _ _ _ _ _ _ _ T121 (mkF m 199 #[.val (.int mk), .val (.int x1), .val (.int x2), .val (.int x3), .val (.int tl), .val (.int ps), .val (.int ch), .unset, .unset, .unset, .unset, .unset, .unset, .unset] [(.ref x101), (.ref x101)])
    refine Run.via (fun _ => XS.bipush X121.at X121.ex rfl (X121.de at_199)) ?_
    show Run _ _ _ _ _ _ _ _ _ _ _ _ _ T121 (mkF m 201 #[.val (.int mk), .val (.int x1), .val (.int x2), .val (.int x3), .val (.int tl), .val (.int ps), .val (.int ch), .unset, .unset, .unset, .unset, .unset, .unset, .unset] [(.int (12 : Int32)), (.ref x101), (.ref x101)])
    refine Run.via (fun _ => XS.bipush X121.at X121.ex rfl (X121.de at_201)) ?_
    show Run _ _ _ _ _ _ _ _ _ _ _ _ _ T121 (mkF m 203 #[.val (.int mk), .val (.int x1), .val (.int x2), .val (.int x3), .val (.int tl), .val (.int ps), .val (.int ch), .unset, .unset, .unset, .unset, .unset, .unset, .unset] [(.int (12 : Int32)), (.int (12 : Int32)), (.ref x101), (.ref x101)])
    refine Run.via (fun _ => XS.iloadN X121.at X121.ex rfl (X121.de at_203) rfl) ?_
    show Run _ _ _ _ _ _ _ _ _ _ _ _ _ T121 (mkF m 204 #[.val (.int mk), .val (.int x1), .val (.int x2), .val (.int x3), .val (.int tl), .val (.int ps), .val (.int ch), .unset, .unset, .unset, .unset, .unset, .unset, .unset] [(.int mk), (.int (12 : Int32)), (.int (12 : Int32)), (.ref x101), (.ref x101)])
    refine Run.via (fun _ => XS.iload X121.at X121.ex rfl (X121.de at_204) rfl) ?_
    show Run _ _ _ _ _ _ _ _ _ _ _ _ _ T121 (mkF m 206 #[.val (.int mk), .val (.int x1), .val (.int x2), .val (.int x3), .val (.int tl), .val (.int ps), .val (.int ch), .unset, .unset, .unset, .unset, .unset, .unset, .unset] [(.int ps), (.int mk), (.int (12 : Int32)), (.int (12 : Int32)), (.ref x101), (.ref x101)])
    refine Run.via (fun _ => XS.iload X121.at X121.ex rfl (X121.de at_206) rfl) ?_
    show Run _ _ _ _ _ _ _ _ _ _ _ _ _ T121 (mkF m 208 #[.val (.int mk), .val (.int x1), .val (.int x2), .val (.int x3), .val (.int tl), .val (.int ps), .val (.int ch), .unset, .unset, .unset, .unset, .unset, .unset, .unset] [(.int ch), (.int ps), (.int mk), (.int (12 : Int32)), (.int (12 : Int32)), (.ref x101), (.ref x101)])
    refine Run.via (fun _ => XS.iload X121.at X121.ex rfl (X121.de at_208) rfl) ?_
    show Run _ _ _ _ _ _ _ _ _ _ _ _ _ T121 (mkF m 210 #[.val (.int mk), .val (.int x1), .val (.int x2), .val (.int x3), .val (.int tl), .val (.int ps), .val (.int ch), .unset, .unset, .unset, .unset, .unset, .unset, .unset] [(.int tl), (.int ch), (.int ps), (.int mk), (.int (12 : Int32)), (.int (12 : Int32)), (.ref x101), (.ref x101)])
    refine Run.callS X121 (y := (⟨"com/example/veneer/veneer/ServiceIriIsServiceIriPinLaw", "at", "(IIICI)C"⟩ : MethodName)) (W := 3) (con_aK l hw hS (i := 12) SL11 (by decide) rc X121.old) (wd hw 1 rfl) (wd hw 2 rfl) (wd hw 3 rfl) (wd hw 4 rfl) (by decide) pd__IIICI_C rfl (argsL := [(.int (12 : Int32)), (.int mk), (.int ps), (.int ch), (.int tl)]) (rest := [(.int (12 : Int32)), (.ref x101), (.ref x101)]) rfl (Nat.le_of_ble_eq_true rfl) rfl at_210 (by decide) (by decide) (Nat.le_of_ble_eq_true rfl) (Nat.le_of_ble_eq_true rfl) (nofun) (nofun) ?_
    intro v122 T122 h122 L122 q122 X122 XF122 XK122 K122
    obtain ⟨d12, rfl, t12⟩ := q122
    show Run _ _ _ _ _ _ _ _ _ _ _ _ _ T122 (mkF m 213 #[.val (.int mk), .val (.int x1), .val (.int x2), .val (.int x3), .val (.int tl), .val (.int ps), .val (.int ch), .unset, .unset, .unset, .unset, .unset, .unset, .unset] [(.int d12), (.int (12 : Int32)), (.ref x101), (.ref x101)])
    have A122x := A121.keep K122 nin0
    have SK12 := SL11.keep K122
    have u12 := X122.kp.1
    have ul12 := A122x.lt
    refine Run.castore X122 (i := 12) (v' := d12) A122x rfl (Nat.le_of_ble_eq_true rfl) (nar_lat t12.2.2) (Or.inr (by omega)) (by omega) at_213 ?_
    intro T123 h123 L123 X123 K123 z123 A123
    have A123 : Arc .char Z h123 x101 [d0, d1, d2, d3, d4, d5, d6, d7, d8, d9, d10, d11, d12, (0 : Int32), (0 : Int32), (0 : Int32), (0 : Int32), (0 : Int32), (0 : Int32), (0 : Int32)] := A123
    show Run _ _ _ _ _ _ _ _ _ _ _ _ _ T123 (mkF m 214 #[.val (.int mk), .val (.int x1), .val (.int x2), .val (.int x3), .val (.int tl), .val (.int ps), .val (.int ch), .unset, .unset, .unset, .unset, .unset, .unset, .unset] [(.ref x101)])
    have SL12 := SK12.keepC A122x K123 (wd hw 10 rfl)
    refine Run.via (fun _ => XS.dup X123.at X123.ex rfl (X123.de at_214) rfl rfl) ?_
    show Run _ _ _ _ _ _ _ _ _ _ _ _ _ T123 (mkF m 215 #[.val (.int mk), .val (.int x1), .val (.int x2), .val (.int x3), .val (.int tl), .val (.int ps), .val (.int ch), .unset, .unset, .unset, .unset, .unset, .unset, .unset] [(.ref x101), (.ref x101)])
    refine Run.via (fun _ => XS.bipush X123.at X123.ex rfl (X123.de at_215)) ?_
    show Run _ _ _ _ _ _ _ _ _ _ _ _ _ T123 (mkF m 217 #[.val (.int mk), .val (.int x1), .val (.int x2), .val (.int x3), .val (.int tl), .val (.int ps), .val (.int ch), .unset, .unset, .unset, .unset, .unset, .unset, .unset] [(.int (13 : Int32)), (.ref x101), (.ref x101)])
    refine Run.via (fun _ => XS.bipush X123.at X123.ex rfl (X123.de at_217)) ?_
    show Run _ _ _ _ _ _ _ _ _ _ _ _ _ T123 (mkF m 219 #[.val (.int mk), .val (.int x1), .val (.int x2), .val (.int x3), .val (.int tl), .val (.int ps), .val (.int ch), .unset, .unset, .unset, .unset, .unset, .unset, .unset] [(.int (13 : Int32)), (.int (13 : Int32)), (.ref x101), (.ref x101)])
    refine Run.via (fun _ => XS.iloadN X123.at X123.ex rfl (X123.de at_219) rfl) ?_
    show Run _ _ _ _ _ _ _ _ _ _ _ _ _ T123 (mkF m 220 #[.val (.int mk), .val (.int x1), .val (.int x2), .val (.int x3), .val (.int tl), .val (.int ps), .val (.int ch), .unset, .unset, .unset, .unset, .unset, .unset, .unset] [(.int mk), (.int (13 : Int32)), (.int (13 : Int32)), (.ref x101), (.ref x101)])
    refine Run.via (fun _ => XS.iload X123.at X123.ex rfl (X123.de at_220) rfl) ?_
    show Run _ _ _ _ _ _ _ _ _ _ _ _ _ T123 (mkF m 222 #[.val (.int mk), .val (.int x1), .val (.int x2), .val (.int x3), .val (.int tl), .val (.int ps), .val (.int ch), .unset, .unset, .unset, .unset, .unset, .unset, .unset] [(.int ps), (.int mk), (.int (13 : Int32)), (.int (13 : Int32)), (.ref x101), (.ref x101)])
    refine Run.via (fun _ => XS.iload X123.at X123.ex rfl (X123.de at_222) rfl) ?_
    show Run _ _ _ _ _ _ _ _ _ _ _ _ _ T123 (mkF m 224 #[.val (.int mk), .val (.int x1), .val (.int x2), .val (.int x3), .val (.int tl), .val (.int ps), .val (.int ch), .unset, .unset, .unset, .unset, .unset, .unset, .unset] [(.int ch), (.int ps), (.int mk), (.int (13 : Int32)), (.int (13 : Int32)), (.ref x101), (.ref x101)])
    refine Run.via (fun _ => XS.iload X123.at X123.ex rfl (X123.de at_224) rfl) ?_
    show Run _ _ _ _ _ _ _ _ _ _ _ _ _ T123 (mkF m 226 #[.val (.int mk), .val (.int x1), .val (.int x2), .val (.int x3), .val (.int tl), .val (.int ps), .val (.int ch), .unset, .unset, .unset, .unset, .unset, .unset, .unset] [(.int tl), (.int ch), (.int ps), (.int mk), (.int (13 : Int32)), (.int (13 : Int32)), (.ref x101), (.ref x101)])
    refine Run.callS X123 (y := (⟨"com/example/veneer/veneer/ServiceIriIsServiceIriPinLaw", "at", "(IIICI)C"⟩ : MethodName)) (W := 3) (con_aK l hw hS (i := 13) SL12 (by decide) rc X123.old) (wd hw 1 rfl) (wd hw 2 rfl) (wd hw 3 rfl) (wd hw 4 rfl) (by decide) pd__IIICI_C rfl (argsL := [(.int (13 : Int32)), (.int mk), (.int ps), (.int ch), (.int tl)]) (rest := [(.int (13 : Int32)), (.ref x101), (.ref x101)]) rfl (Nat.le_of_ble_eq_true rfl) rfl at_226 (by decide) (by decide) (Nat.le_of_ble_eq_true rfl) (Nat.le_of_ble_eq_true rfl) (nofun) (nofun) ?_
    intro v124 T124 h124 L124 q124 X124 XF124 XK124 K124
    obtain ⟨d13, rfl, t13⟩ := q124
    show Run _ _ _ _ _ _ _ _ _ _ _ _ _ T124 (mkF m 229 #[.val (.int mk), .val (.int x1), .val (.int x2), .val (.int x3), .val (.int tl), .val (.int ps), .val (.int ch), .unset, .unset, .unset, .unset, .unset, .unset, .unset] [(.int d13), (.int (13 : Int32)), (.ref x101), (.ref x101)])
    have A124x := A123.keep K124 nin0
    have SK13 := SL12.keep K124
    have u13 := X124.kp.1
    have ul13 := A124x.lt
    refine Run.castore X124 (i := 13) (v' := d13) A124x rfl (Nat.le_of_ble_eq_true rfl) (nar_lat t13.2.2) (Or.inr (by omega)) (by omega) at_229 ?_
    intro T125 h125 L125 X125 K125 z125 A125
    have A125 : Arc .char Z h125 x101 [d0, d1, d2, d3, d4, d5, d6, d7, d8, d9, d10, d11, d12, d13, (0 : Int32), (0 : Int32), (0 : Int32), (0 : Int32), (0 : Int32), (0 : Int32)] := A125
    show Run _ _ _ _ _ _ _ _ _ _ _ _ _ T125 (mkF m 230 #[.val (.int mk), .val (.int x1), .val (.int x2), .val (.int x3), .val (.int tl), .val (.int ps), .val (.int ch), .unset, .unset, .unset, .unset, .unset, .unset, .unset] [(.ref x101)])
    have SL13 := SK13.keepC A124x K125 (wd hw 10 rfl)
    refine Run.via (fun _ => XS.dup X125.at X125.ex rfl (X125.de at_230) rfl rfl) ?_
    show Run _ _ _ _ _ _ _ _ _ _ _ _ _ T125 (mkF m 231 #[.val (.int mk), .val (.int x1), .val (.int x2), .val (.int x3), .val (.int tl), .val (.int ps), .val (.int ch), .unset, .unset, .unset, .unset, .unset, .unset, .unset] [(.ref x101), (.ref x101)])
    refine Run.via (fun _ => XS.bipush X125.at X125.ex rfl (X125.de at_231)) ?_
    show Run _ _ _ _ _ _ _ _ _ _ _ _ _ T125 (mkF m 233 #[.val (.int mk), .val (.int x1), .val (.int x2), .val (.int x3), .val (.int tl), .val (.int ps), .val (.int ch), .unset, .unset, .unset, .unset, .unset, .unset, .unset] [(.int (14 : Int32)), (.ref x101), (.ref x101)])
    refine Run.via (fun _ => XS.bipush X125.at X125.ex rfl (X125.de at_233)) ?_
    show Run _ _ _ _ _ _ _ _ _ _ _ _ _ T125 (mkF m 235 #[.val (.int mk), .val (.int x1), .val (.int x2), .val (.int x3), .val (.int tl), .val (.int ps), .val (.int ch), .unset, .unset, .unset, .unset, .unset, .unset, .unset] [(.int (14 : Int32)), (.int (14 : Int32)), (.ref x101), (.ref x101)])
    refine Run.via (fun _ => XS.iloadN X125.at X125.ex rfl (X125.de at_235) rfl) ?_
    show Run _ _ _ _ _ _ _ _ _ _ _ _ _ T125 (mkF m 236 #[.val (.int mk), .val (.int x1), .val (.int x2), .val (.int x3), .val (.int tl), .val (.int ps), .val (.int ch), .unset, .unset, .unset, .unset, .unset, .unset, .unset] [(.int mk), (.int (14 : Int32)), (.int (14 : Int32)), (.ref x101), (.ref x101)])
    refine Run.via (fun _ => XS.iload X125.at X125.ex rfl (X125.de at_236) rfl) ?_
    show Run _ _ _ _ _ _ _ _ _ _ _ _ _ T125 (mkF m 238 #[.val (.int mk), .val (.int x1), .val (.int x2), .val (.int x3), .val (.int tl), .val (.int ps), .val (.int ch), .unset, .unset, .unset, .unset, .unset, .unset, .unset] [(.int ps), (.int mk), (.int (14 : Int32)), (.int (14 : Int32)), (.ref x101), (.ref x101)])
    refine Run.via (fun _ => XS.iload X125.at X125.ex rfl (X125.de at_238) rfl) ?_
    show Run _ _ _ _ _ _ _ _ _ _ _ _ _ T125 (mkF m 240 #[.val (.int mk), .val (.int x1), .val (.int x2), .val (.int x3), .val (.int tl), .val (.int ps), .val (.int ch), .unset, .unset, .unset, .unset, .unset, .unset, .unset] [(.int ch), (.int ps), (.int mk), (.int (14 : Int32)), (.int (14 : Int32)), (.ref x101), (.ref x101)])
    refine Run.via (fun _ => XS.iload X125.at X125.ex rfl (X125.de at_240) rfl) ?_
    show Run _ _ _ _ _ _ _ _ _ _ _ _ _ T125 (mkF m 242 #[.val (.int mk), .val (.int x1), .val (.int x2), .val (.int x3), .val (.int tl), .val (.int ps), .val (.int ch), .unset, .unset, .unset, .unset, .unset, .unset, .unset] [(.int tl), (.int ch), (.int ps), (.int mk), (.int (14 : Int32)), (.int (14 : Int32)), (.ref x101), (.ref x101)])
    refine Run.callS X125 (y := (⟨"com/example/veneer/veneer/ServiceIriIsServiceIriPinLaw", "at", "(IIICI)C"⟩ : MethodName)) (W := 3) (con_aK l hw hS (i := 14) SL13 (by decide) rc X125.old) (wd hw 1 rfl) (wd hw 2 rfl) (wd hw 3 rfl) (wd hw 4 rfl) (by decide) pd__IIICI_C rfl (argsL := [(.int (14 : Int32)), (.int mk), (.int ps), (.int ch), (.int tl)]) (rest := [(.int (14 : Int32)), (.ref x101), (.ref x101)]) rfl (Nat.le_of_ble_eq_true rfl) rfl at_242 (by decide) (by decide) (Nat.le_of_ble_eq_true rfl) (Nat.le_of_ble_eq_true rfl) (nofun) (nofun) ?_
    intro v126 T126 h126 L126 q126 X126 XF126 XK126 K126
    obtain ⟨d14, rfl, t14⟩ := q126
    show Run _ _ _ _ _ _ _ _ _ _ _ _ _ T126 (mkF m 245 #[.val (.int mk), .val (.int x1), .val (.int x2), .val (.int x3), .val (.int tl), .val (.int ps), .val (.int ch), .unset, .unset, .unset, .unset, .unset, .unset, .unset] [(.int d14), (.int (14 : Int32)), (.ref x101), (.ref x101)])
    have A126x := A125.keep K126 nin0
    have SK14 := SL13.keep K126
    have u14 := X126.kp.1
    have ul14 := A126x.lt
    refine Run.castore X126 (i := 14) (v' := d14) A126x rfl (Nat.le_of_ble_eq_true rfl) (nar_lat t14.2.2) (Or.inr (by omega)) (by omega) at_245 ?_
    intro T127 h127 L127 X127 K127 z127 A127
    have A127 : Arc .char Z h127 x101 [d0, d1, d2, d3, d4, d5, d6, d7, d8, d9, d10, d11, d12, d13, d14, (0 : Int32), (0 : Int32), (0 : Int32), (0 : Int32), (0 : Int32)] := A127
    show Run _ _ _ _ _ _ _ _ _ _ _ _ _ T127 (mkF m 246 #[.val (.int mk), .val (.int x1), .val (.int x2), .val (.int x3), .val (.int tl), .val (.int ps), .val (.int ch), .unset, .unset, .unset, .unset, .unset, .unset, .unset] [(.ref x101)])
    have SL14 := SK14.keepC A126x K127 (wd hw 10 rfl)
    refine Run.via (fun _ => XS.dup X127.at X127.ex rfl (X127.de at_246) rfl rfl) ?_
    show Run _ _ _ _ _ _ _ _ _ _ _ _ _ T127 (mkF m 247 #[.val (.int mk), .val (.int x1), .val (.int x2), .val (.int x3), .val (.int tl), .val (.int ps), .val (.int ch), .unset, .unset, .unset, .unset, .unset, .unset, .unset] [(.ref x101), (.ref x101)])
    refine Run.via (fun _ => XS.bipush X127.at X127.ex rfl (X127.de at_247)) ?_
    show Run _ _ _ _ _ _ _ _ _ _ _ _ _ T127 (mkF m 249 #[.val (.int mk), .val (.int x1), .val (.int x2), .val (.int x3), .val (.int tl), .val (.int ps), .val (.int ch), .unset, .unset, .unset, .unset, .unset, .unset, .unset] [(.int (15 : Int32)), (.ref x101), (.ref x101)])
    refine Run.via (fun _ => XS.bipush X127.at X127.ex rfl (X127.de at_249)) ?_
    show Run _ _ _ _ _ _ _ _ _ _ _ _ _ T127 (mkF m 251 #[.val (.int mk), .val (.int x1), .val (.int x2), .val (.int x3), .val (.int tl), .val (.int ps), .val (.int ch), .unset, .unset, .unset, .unset, .unset, .unset, .unset] [(.int (15 : Int32)), (.int (15 : Int32)), (.ref x101), (.ref x101)])
    refine Run.via (fun _ => XS.iloadN X127.at X127.ex rfl (X127.de at_251) rfl) ?_
    show Run _ _ _ _ _ _ _ _ _ _ _ _ _ T127 (mkF m 252 #[.val (.int mk), .val (.int x1), .val (.int x2), .val (.int x3), .val (.int tl), .val (.int ps), .val (.int ch), .unset, .unset, .unset, .unset, .unset, .unset, .unset] [(.int mk), (.int (15 : Int32)), (.int (15 : Int32)), (.ref x101), (.ref x101)])
    refine Run.via (fun _ => XS.iload X127.at X127.ex rfl (X127.de at_252) rfl) ?_
    show Run _ _ _ _ _ _ _ _ _ _ _ _ _ T127 (mkF m 254 #[.val (.int mk), .val (.int x1), .val (.int x2), .val (.int x3), .val (.int tl), .val (.int ps), .val (.int ch), .unset, .unset, .unset, .unset, .unset, .unset, .unset] [(.int ps), (.int mk), (.int (15 : Int32)), (.int (15 : Int32)), (.ref x101), (.ref x101)])
    refine Run.via (fun _ => XS.iload X127.at X127.ex rfl (X127.de at_254) rfl) ?_
    show Run _ _ _ _ _ _ _ _ _ _ _ _ _ T127 (mkF m 256 #[.val (.int mk), .val (.int x1), .val (.int x2), .val (.int x3), .val (.int tl), .val (.int ps), .val (.int ch), .unset, .unset, .unset, .unset, .unset, .unset, .unset] [(.int ch), (.int ps), (.int mk), (.int (15 : Int32)), (.int (15 : Int32)), (.ref x101), (.ref x101)])
    refine Run.via (fun _ => XS.iload X127.at X127.ex rfl (X127.de at_256) rfl) ?_
    show Run _ _ _ _ _ _ _ _ _ _ _ _ _ T127 (mkF m 258 #[.val (.int mk), .val (.int x1), .val (.int x2), .val (.int x3), .val (.int tl), .val (.int ps), .val (.int ch), .unset, .unset, .unset, .unset, .unset, .unset, .unset] [(.int tl), (.int ch), (.int ps), (.int mk), (.int (15 : Int32)), (.int (15 : Int32)), (.ref x101), (.ref x101)])
    refine Run.callS X127 (y := (⟨"com/example/veneer/veneer/ServiceIriIsServiceIriPinLaw", "at", "(IIICI)C"⟩ : MethodName)) (W := 3) (con_aK l hw hS (i := 15) SL14 (by decide) rc X127.old) (wd hw 1 rfl) (wd hw 2 rfl) (wd hw 3 rfl) (wd hw 4 rfl) (by decide) pd__IIICI_C rfl (argsL := [(.int (15 : Int32)), (.int mk), (.int ps), (.int ch), (.int tl)]) (rest := [(.int (15 : Int32)), (.ref x101), (.ref x101)]) rfl (Nat.le_of_ble_eq_true rfl) rfl at_258 (by decide) (by decide) (Nat.le_of_ble_eq_true rfl) (Nat.le_of_ble_eq_true rfl) (nofun) (nofun) ?_
    intro v128 T128 h128 L128 q128 X128 XF128 XK128 K128
    obtain ⟨d15, rfl, t15⟩ := q128
    show Run _ _ _ _ _ _ _ _ _ _ _ _ _ T128 (mkF m 261 #[.val (.int mk), .val (.int x1), .val (.int x2), .val (.int x3), .val (.int tl), .val (.int ps), .val (.int ch), .unset, .unset, .unset, .unset, .unset, .unset, .unset] [(.int d15), (.int (15 : Int32)), (.ref x101), (.ref x101)])
    have A128x := A127.keep K128 nin0
    have SK15 := SL14.keep K128
    have u15 := X128.kp.1
    have ul15 := A128x.lt
    refine Run.castore X128 (i := 15) (v' := d15) A128x rfl (Nat.le_of_ble_eq_true rfl) (nar_lat t15.2.2) (Or.inr (by omega)) (by omega) at_261 ?_
    intro T129 h129 L129 X129 K129 z129 A129
    have A129 : Arc .char Z h129 x101 [d0, d1, d2, d3, d4, d5, d6, d7, d8, d9, d10, d11, d12, d13, d14, d15, (0 : Int32), (0 : Int32), (0 : Int32), (0 : Int32)] := A129
    show Run _ _ _ _ _ _ _ _ _ _ _ _ _ T129 (mkF m 262 #[.val (.int mk), .val (.int x1), .val (.int x2), .val (.int x3), .val (.int tl), .val (.int ps), .val (.int ch), .unset, .unset, .unset, .unset, .unset, .unset, .unset] [(.ref x101)])
    have SL15 := SK15.keepC A128x K129 (wd hw 10 rfl)
    refine Run.via (fun _ => XS.dup X129.at X129.ex rfl (X129.de at_262) rfl rfl) ?_
    show Run _ _ _ _ _ _ _ _ _ _ _ _ _ T129 (mkF m 263 #[.val (.int mk), .val (.int x1), .val (.int x2), .val (.int x3), .val (.int tl), .val (.int ps), .val (.int ch), .unset, .unset, .unset, .unset, .unset, .unset, .unset] [(.ref x101), (.ref x101)])
    refine Run.via (fun _ => XS.bipush X129.at X129.ex rfl (X129.de at_263)) ?_
    show Run _ _ _ _ _ _ _ _ _ _ _ _ _ T129 (mkF m 265 #[.val (.int mk), .val (.int x1), .val (.int x2), .val (.int x3), .val (.int tl), .val (.int ps), .val (.int ch), .unset, .unset, .unset, .unset, .unset, .unset, .unset] [(.int (16 : Int32)), (.ref x101), (.ref x101)])
    refine Run.via (fun _ => XS.bipush X129.at X129.ex rfl (X129.de at_265)) ?_
    show Run _ _ _ _ _ _ _ _ _ _ _ _ _ T129 (mkF m 267 #[.val (.int mk), .val (.int x1), .val (.int x2), .val (.int x3), .val (.int tl), .val (.int ps), .val (.int ch), .unset, .unset, .unset, .unset, .unset, .unset, .unset] [(.int (16 : Int32)), (.int (16 : Int32)), (.ref x101), (.ref x101)])
    refine Run.via (fun _ => XS.iloadN X129.at X129.ex rfl (X129.de at_267) rfl) ?_
    show Run _ _ _ _ _ _ _ _ _ _ _ _ _ T129 (mkF m 268 #[.val (.int mk), .val (.int x1), .val (.int x2), .val (.int x3), .val (.int tl), .val (.int ps), .val (.int ch), .unset, .unset, .unset, .unset, .unset, .unset, .unset] [(.int mk), (.int (16 : Int32)), (.int (16 : Int32)), (.ref x101), (.ref x101)])
    refine Run.via (fun _ => XS.iload X129.at X129.ex rfl (X129.de at_268) rfl) ?_
    show Run _ _ _ _ _ _ _ _ _ _ _ _ _ T129 (mkF m 270 #[.val (.int mk), .val (.int x1), .val (.int x2), .val (.int x3), .val (.int tl), .val (.int ps), .val (.int ch), .unset, .unset, .unset, .unset, .unset, .unset, .unset] [(.int ps), (.int mk), (.int (16 : Int32)), (.int (16 : Int32)), (.ref x101), (.ref x101)])
    refine Run.via (fun _ => XS.iload X129.at X129.ex rfl (X129.de at_270) rfl) ?_
    show Run _ _ _ _ _ _ _ _ _ _ _ _ _ T129 (mkF m 272 #[.val (.int mk), .val (.int x1), .val (.int x2), .val (.int x3), .val (.int tl), .val (.int ps), .val (.int ch), .unset, .unset, .unset, .unset, .unset, .unset, .unset] [(.int ch), (.int ps), (.int mk), (.int (16 : Int32)), (.int (16 : Int32)), (.ref x101), (.ref x101)])
    refine Run.via (fun _ => XS.iload X129.at X129.ex rfl (X129.de at_272) rfl) ?_
    show Run _ _ _ _ _ _ _ _ _ _ _ _ _ T129 (mkF m 274 #[.val (.int mk), .val (.int x1), .val (.int x2), .val (.int x3), .val (.int tl), .val (.int ps), .val (.int ch), .unset, .unset, .unset, .unset, .unset, .unset, .unset] [(.int tl), (.int ch), (.int ps), (.int mk), (.int (16 : Int32)), (.int (16 : Int32)), (.ref x101), (.ref x101)])
    refine Run.callS X129 (y := (⟨"com/example/veneer/veneer/ServiceIriIsServiceIriPinLaw", "at", "(IIICI)C"⟩ : MethodName)) (W := 3) (con_aK l hw hS (i := 16) SL15 (by decide) rc X129.old) (wd hw 1 rfl) (wd hw 2 rfl) (wd hw 3 rfl) (wd hw 4 rfl) (by decide) pd__IIICI_C rfl (argsL := [(.int (16 : Int32)), (.int mk), (.int ps), (.int ch), (.int tl)]) (rest := [(.int (16 : Int32)), (.ref x101), (.ref x101)]) rfl (Nat.le_of_ble_eq_true rfl) rfl at_274 (by decide) (by decide) (Nat.le_of_ble_eq_true rfl) (Nat.le_of_ble_eq_true rfl) (nofun) (nofun) ?_
    intro v130 T130 h130 L130 q130 X130 XF130 XK130 K130
    obtain ⟨d16, rfl, t16⟩ := q130
    show Run _ _ _ _ _ _ _ _ _ _ _ _ _ T130 (mkF m 277 #[.val (.int mk), .val (.int x1), .val (.int x2), .val (.int x3), .val (.int tl), .val (.int ps), .val (.int ch), .unset, .unset, .unset, .unset, .unset, .unset, .unset] [(.int d16), (.int (16 : Int32)), (.ref x101), (.ref x101)])
    have A130x := A129.keep K130 nin0
    have SK16 := SL15.keep K130
    have u16 := X130.kp.1
    have ul16 := A130x.lt
    refine Run.castore X130 (i := 16) (v' := d16) A130x rfl (Nat.le_of_ble_eq_true rfl) (nar_lat t16.2.2) (Or.inr (by omega)) (by omega) at_277 ?_
    intro T131 h131 L131 X131 K131 z131 A131
    have A131 : Arc .char Z h131 x101 [d0, d1, d2, d3, d4, d5, d6, d7, d8, d9, d10, d11, d12, d13, d14, d15, d16, (0 : Int32), (0 : Int32), (0 : Int32)] := A131
    show Run _ _ _ _ _ _ _ _ _ _ _ _ _ T131 (mkF m 278 #[.val (.int mk), .val (.int x1), .val (.int x2), .val (.int x3), .val (.int tl), .val (.int ps), .val (.int ch), .unset, .unset, .unset, .unset, .unset, .unset, .unset] [(.ref x101)])
    have SL16 := SK16.keepC A130x K131 (wd hw 10 rfl)
    refine Run.via (fun _ => XS.dup X131.at X131.ex rfl (X131.de at_278) rfl rfl) ?_
    show Run _ _ _ _ _ _ _ _ _ _ _ _ _ T131 (mkF m 279 #[.val (.int mk), .val (.int x1), .val (.int x2), .val (.int x3), .val (.int tl), .val (.int ps), .val (.int ch), .unset, .unset, .unset, .unset, .unset, .unset, .unset] [(.ref x101), (.ref x101)])
    refine Run.via (fun _ => XS.bipush X131.at X131.ex rfl (X131.de at_279)) ?_
    show Run _ _ _ _ _ _ _ _ _ _ _ _ _ T131 (mkF m 281 #[.val (.int mk), .val (.int x1), .val (.int x2), .val (.int x3), .val (.int tl), .val (.int ps), .val (.int ch), .unset, .unset, .unset, .unset, .unset, .unset, .unset] [(.int (17 : Int32)), (.ref x101), (.ref x101)])
    refine Run.via (fun _ => XS.bipush X131.at X131.ex rfl (X131.de at_281)) ?_
    show Run _ _ _ _ _ _ _ _ _ _ _ _ _ T131 (mkF m 283 #[.val (.int mk), .val (.int x1), .val (.int x2), .val (.int x3), .val (.int tl), .val (.int ps), .val (.int ch), .unset, .unset, .unset, .unset, .unset, .unset, .unset] [(.int (17 : Int32)), (.int (17 : Int32)), (.ref x101), (.ref x101)])
    refine Run.via (fun _ => XS.iloadN X131.at X131.ex rfl (X131.de at_283) rfl) ?_
    show Run _ _ _ _ _ _ _ _ _ _ _ _ _ T131 (mkF m 284 #[.val (.int mk), .val (.int x1), .val (.int x2), .val (.int x3), .val (.int tl), .val (.int ps), .val (.int ch), .unset, .unset, .unset, .unset, .unset, .unset, .unset] [(.int mk), (.int (17 : Int32)), (.int (17 : Int32)), (.ref x101), (.ref x101)])
    refine Run.via (fun _ => XS.iload X131.at X131.ex rfl (X131.de at_284) rfl) ?_
    show Run _ _ _ _ _ _ _ _ _ _ _ _ _ T131 (mkF m 286 #[.val (.int mk), .val (.int x1), .val (.int x2), .val (.int x3), .val (.int tl), .val (.int ps), .val (.int ch), .unset, .unset, .unset, .unset, .unset, .unset, .unset] [(.int ps), (.int mk), (.int (17 : Int32)), (.int (17 : Int32)), (.ref x101), (.ref x101)])
    refine Run.via (fun _ => XS.iload X131.at X131.ex rfl (X131.de at_286) rfl) ?_
    show Run _ _ _ _ _ _ _ _ _ _ _ _ _ T131 (mkF m 288 #[.val (.int mk), .val (.int x1), .val (.int x2), .val (.int x3), .val (.int tl), .val (.int ps), .val (.int ch), .unset, .unset, .unset, .unset, .unset, .unset, .unset] [(.int ch), (.int ps), (.int mk), (.int (17 : Int32)), (.int (17 : Int32)), (.ref x101), (.ref x101)])
    refine Run.via (fun _ => XS.iload X131.at X131.ex rfl (X131.de at_288) rfl) ?_
    show Run _ _ _ _ _ _ _ _ _ _ _ _ _ T131 (mkF m 290 #[.val (.int mk), .val (.int x1), .val (.int x2), .val (.int x3), .val (.int tl), .val (.int ps), .val (.int ch), .unset, .unset, .unset, .unset, .unset, .unset, .unset] [(.int tl), (.int ch), (.int ps), (.int mk), (.int (17 : Int32)), (.int (17 : Int32)), (.ref x101), (.ref x101)])
    refine Run.callS X131 (y := (⟨"com/example/veneer/veneer/ServiceIriIsServiceIriPinLaw", "at", "(IIICI)C"⟩ : MethodName)) (W := 3) (con_aK l hw hS (i := 17) SL16 (by decide) rc X131.old) (wd hw 1 rfl) (wd hw 2 rfl) (wd hw 3 rfl) (wd hw 4 rfl) (by decide) pd__IIICI_C rfl (argsL := [(.int (17 : Int32)), (.int mk), (.int ps), (.int ch), (.int tl)]) (rest := [(.int (17 : Int32)), (.ref x101), (.ref x101)]) rfl (Nat.le_of_ble_eq_true rfl) rfl at_290 (by decide) (by decide) (Nat.le_of_ble_eq_true rfl) (Nat.le_of_ble_eq_true rfl) (nofun) (nofun) ?_
    intro v132 T132 h132 L132 q132 X132 XF132 XK132 K132
    obtain ⟨d17, rfl, t17⟩ := q132
    show Run _ _ _ _ _ _ _ _ _ _ _ _ _ T132 (mkF m 293 #[.val (.int mk), .val (.int x1), .val (.int x2), .val (.int x3), .val (.int tl), .val (.int ps), .val (.int ch), .unset, .unset, .unset, .unset, .unset, .unset, .unset] [(.int d17), (.int (17 : Int32)), (.ref x101), (.ref x101)])
    have A132x := A131.keep K132 nin0
    have SK17 := SL16.keep K132
    have u17 := X132.kp.1
    have ul17 := A132x.lt
    refine Run.castore X132 (i := 17) (v' := d17) A132x rfl (Nat.le_of_ble_eq_true rfl) (nar_lat t17.2.2) (Or.inr (by omega)) (by omega) at_293 ?_
    intro T133 h133 L133 X133 K133 z133 A133
    have A133 : Arc .char Z h133 x101 [d0, d1, d2, d3, d4, d5, d6, d7, d8, d9, d10, d11, d12, d13, d14, d15, d16, d17, (0 : Int32), (0 : Int32)] := A133
    show Run _ _ _ _ _ _ _ _ _ _ _ _ _ T133 (mkF m 294 #[.val (.int mk), .val (.int x1), .val (.int x2), .val (.int x3), .val (.int tl), .val (.int ps), .val (.int ch), .unset, .unset, .unset, .unset, .unset, .unset, .unset] [(.ref x101)])
    have SL17 := SK17.keepC A132x K133 (wd hw 10 rfl)
    refine Run.via (fun _ => XS.dup X133.at X133.ex rfl (X133.de at_294) rfl rfl) ?_
    show Run _ _ _ _ _ _ _ _ _ _ _ _ _ T133 (mkF m 295 #[.val (.int mk), .val (.int x1), .val (.int x2), .val (.int x3), .val (.int tl), .val (.int ps), .val (.int ch), .unset, .unset, .unset, .unset, .unset, .unset, .unset] [(.ref x101), (.ref x101)])
    refine Run.via (fun _ => XS.bipush X133.at X133.ex rfl (X133.de at_295)) ?_
    show Run _ _ _ _ _ _ _ _ _ _ _ _ _ T133 (mkF m 297 #[.val (.int mk), .val (.int x1), .val (.int x2), .val (.int x3), .val (.int tl), .val (.int ps), .val (.int ch), .unset, .unset, .unset, .unset, .unset, .unset, .unset] [(.int (18 : Int32)), (.ref x101), (.ref x101)])
    refine Run.via (fun _ => XS.bipush X133.at X133.ex rfl (X133.de at_297)) ?_
    show Run _ _ _ _ _ _ _ _ _ _ _ _ _ T133 (mkF m 299 #[.val (.int mk), .val (.int x1), .val (.int x2), .val (.int x3), .val (.int tl), .val (.int ps), .val (.int ch), .unset, .unset, .unset, .unset, .unset, .unset, .unset] [(.int (18 : Int32)), (.int (18 : Int32)), (.ref x101), (.ref x101)])
    refine Run.via (fun _ => XS.iloadN X133.at X133.ex rfl (X133.de at_299) rfl) ?_
    show Run _ _ _ _ _ _ _ _ _ _ _ _ _ T133 (mkF m 300 #[.val (.int mk), .val (.int x1), .val (.int x2), .val (.int x3), .val (.int tl), .val (.int ps), .val (.int ch), .unset, .unset, .unset, .unset, .unset, .unset, .unset] [(.int mk), (.int (18 : Int32)), (.int (18 : Int32)), (.ref x101), (.ref x101)])
    refine Run.via (fun _ => XS.iload X133.at X133.ex rfl (X133.de at_300) rfl) ?_
    show Run _ _ _ _ _ _ _ _ _ _ _ _ _ T133 (mkF m 302 #[.val (.int mk), .val (.int x1), .val (.int x2), .val (.int x3), .val (.int tl), .val (.int ps), .val (.int ch), .unset, .unset, .unset, .unset, .unset, .unset, .unset] [(.int ps), (.int mk), (.int (18 : Int32)), (.int (18 : Int32)), (.ref x101), (.ref x101)])
    refine Run.via (fun _ => XS.iload X133.at X133.ex rfl (X133.de at_302) rfl) ?_
    show Run _ _ _ _ _ _ _ _ _ _ _ _ _ T133 (mkF m 304 #[.val (.int mk), .val (.int x1), .val (.int x2), .val (.int x3), .val (.int tl), .val (.int ps), .val (.int ch), .unset, .unset, .unset, .unset, .unset, .unset, .unset] [(.int ch), (.int ps), (.int mk), (.int (18 : Int32)), (.int (18 : Int32)), (.ref x101), (.ref x101)])
    refine Run.via (fun _ => XS.iload X133.at X133.ex rfl (X133.de at_304) rfl) ?_
    show Run _ _ _ _ _ _ _ _ _ _ _ _ _ T133 (mkF m 306 #[.val (.int mk), .val (.int x1), .val (.int x2), .val (.int x3), .val (.int tl), .val (.int ps), .val (.int ch), .unset, .unset, .unset, .unset, .unset, .unset, .unset] [(.int tl), (.int ch), (.int ps), (.int mk), (.int (18 : Int32)), (.int (18 : Int32)), (.ref x101), (.ref x101)])
    refine Run.callS X133 (y := (⟨"com/example/veneer/veneer/ServiceIriIsServiceIriPinLaw", "at", "(IIICI)C"⟩ : MethodName)) (W := 3) (con_aT l hw (i := 18) (by decide) (by decide) rc X133.old) (wd hw 1 rfl) (wd hw 2 rfl) (wd hw 3 rfl) (wd hw 4 rfl) (by decide) pd__IIICI_C rfl (argsL := [(.int (18 : Int32)), (.int mk), (.int ps), (.int ch), (.int tl)]) (rest := [(.int (18 : Int32)), (.ref x101), (.ref x101)]) rfl (Nat.le_of_ble_eq_true rfl) rfl at_306 (by decide) (by decide) (Nat.le_of_ble_eq_true rfl) (Nat.le_of_ble_eq_true rfl) (nofun) (nofun) ?_
    intro v134 T134 h134 L134 q134 X134 XF134 XK134 K134
    obtain ⟨d18, rfl, t18⟩ := q134
    show Run _ _ _ _ _ _ _ _ _ _ _ _ _ T134 (mkF m 309 #[.val (.int mk), .val (.int x1), .val (.int x2), .val (.int x3), .val (.int tl), .val (.int ps), .val (.int ch), .unset, .unset, .unset, .unset, .unset, .unset, .unset] [(.int d18), (.int (18 : Int32)), (.ref x101), (.ref x101)])
    have A134x := A133.keep K134 nin0
    have SK18 := SL17.keep K134
    have u18 := X134.kp.1
    have ul18 := A134x.lt
    refine Run.castore X134 (i := 18) (v' := d18) A134x rfl (Nat.le_of_ble_eq_true rfl) (nar_lat t18.2.2) (Or.inr (by omega)) (by omega) at_309 ?_
    intro T135 h135 L135 X135 K135 z135 A135
    have A135 : Arc .char Z h135 x101 [d0, d1, d2, d3, d4, d5, d6, d7, d8, d9, d10, d11, d12, d13, d14, d15, d16, d17, d18, (0 : Int32)] := A135
    show Run _ _ _ _ _ _ _ _ _ _ _ _ _ T135 (mkF m 310 #[.val (.int mk), .val (.int x1), .val (.int x2), .val (.int x3), .val (.int tl), .val (.int ps), .val (.int ch), .unset, .unset, .unset, .unset, .unset, .unset, .unset] [(.ref x101)])
    have SL18 := SK18.keepC A134x K135 (wd hw 10 rfl)
    refine Run.via (fun _ => XS.dup X135.at X135.ex rfl (X135.de at_310) rfl rfl) ?_
    show Run _ _ _ _ _ _ _ _ _ _ _ _ _ T135 (mkF m 311 #[.val (.int mk), .val (.int x1), .val (.int x2), .val (.int x3), .val (.int tl), .val (.int ps), .val (.int ch), .unset, .unset, .unset, .unset, .unset, .unset, .unset] [(.ref x101), (.ref x101)])
    refine Run.via (fun _ => XS.bipush X135.at X135.ex rfl (X135.de at_311)) ?_
    show Run _ _ _ _ _ _ _ _ _ _ _ _ _ T135 (mkF m 313 #[.val (.int mk), .val (.int x1), .val (.int x2), .val (.int x3), .val (.int tl), .val (.int ps), .val (.int ch), .unset, .unset, .unset, .unset, .unset, .unset, .unset] [(.int (19 : Int32)), (.ref x101), (.ref x101)])
    refine Run.via (fun _ => XS.bipush X135.at X135.ex rfl (X135.de at_313)) ?_
    show Run _ _ _ _ _ _ _ _ _ _ _ _ _ T135 (mkF m 315 #[.val (.int mk), .val (.int x1), .val (.int x2), .val (.int x3), .val (.int tl), .val (.int ps), .val (.int ch), .unset, .unset, .unset, .unset, .unset, .unset, .unset] [(.int (19 : Int32)), (.int (19 : Int32)), (.ref x101), (.ref x101)])
    refine Run.via (fun _ => XS.iloadN X135.at X135.ex rfl (X135.de at_315) rfl) ?_
    show Run _ _ _ _ _ _ _ _ _ _ _ _ _ T135 (mkF m 316 #[.val (.int mk), .val (.int x1), .val (.int x2), .val (.int x3), .val (.int tl), .val (.int ps), .val (.int ch), .unset, .unset, .unset, .unset, .unset, .unset, .unset] [(.int mk), (.int (19 : Int32)), (.int (19 : Int32)), (.ref x101), (.ref x101)])
    refine Run.via (fun _ => XS.iload X135.at X135.ex rfl (X135.de at_316) rfl) ?_
    show Run _ _ _ _ _ _ _ _ _ _ _ _ _ T135 (mkF m 318 #[.val (.int mk), .val (.int x1), .val (.int x2), .val (.int x3), .val (.int tl), .val (.int ps), .val (.int ch), .unset, .unset, .unset, .unset, .unset, .unset, .unset] [(.int ps), (.int mk), (.int (19 : Int32)), (.int (19 : Int32)), (.ref x101), (.ref x101)])
    refine Run.via (fun _ => XS.iload X135.at X135.ex rfl (X135.de at_318) rfl) ?_
    show Run _ _ _ _ _ _ _ _ _ _ _ _ _ T135 (mkF m 320 #[.val (.int mk), .val (.int x1), .val (.int x2), .val (.int x3), .val (.int tl), .val (.int ps), .val (.int ch), .unset, .unset, .unset, .unset, .unset, .unset, .unset] [(.int ch), (.int ps), (.int mk), (.int (19 : Int32)), (.int (19 : Int32)), (.ref x101), (.ref x101)])
    refine Run.via (fun _ => XS.iload X135.at X135.ex rfl (X135.de at_320) rfl) ?_
    show Run _ _ _ _ _ _ _ _ _ _ _ _ _ T135 (mkF m 322 #[.val (.int mk), .val (.int x1), .val (.int x2), .val (.int x3), .val (.int tl), .val (.int ps), .val (.int ch), .unset, .unset, .unset, .unset, .unset, .unset, .unset] [(.int tl), (.int ch), (.int ps), (.int mk), (.int (19 : Int32)), (.int (19 : Int32)), (.ref x101), (.ref x101)])
    refine Run.callS X135 (y := (⟨"com/example/veneer/veneer/ServiceIriIsServiceIriPinLaw", "at", "(IIICI)C"⟩ : MethodName)) (W := 3) (con_aT l hw (i := 19) (by decide) (by decide) rc X135.old) (wd hw 1 rfl) (wd hw 2 rfl) (wd hw 3 rfl) (wd hw 4 rfl) (by decide) pd__IIICI_C rfl (argsL := [(.int (19 : Int32)), (.int mk), (.int ps), (.int ch), (.int tl)]) (rest := [(.int (19 : Int32)), (.ref x101), (.ref x101)]) rfl (Nat.le_of_ble_eq_true rfl) rfl at_322 (by decide) (by decide) (Nat.le_of_ble_eq_true rfl) (Nat.le_of_ble_eq_true rfl) (nofun) (nofun) ?_
    intro v136 T136 h136 L136 q136 X136 XF136 XK136 K136
    obtain ⟨d19, rfl, t19⟩ := q136
    show Run _ _ _ _ _ _ _ _ _ _ _ _ _ T136 (mkF m 325 #[.val (.int mk), .val (.int x1), .val (.int x2), .val (.int x3), .val (.int tl), .val (.int ps), .val (.int ch), .unset, .unset, .unset, .unset, .unset, .unset, .unset] [(.int d19), (.int (19 : Int32)), (.ref x101), (.ref x101)])
    have A136x := A135.keep K136 nin0
    have SK19 := SL18.keep K136
    have u19 := X136.kp.1
    have ul19 := A136x.lt
    refine Run.castore X136 (i := 19) (v' := d19) A136x rfl (Nat.le_of_ble_eq_true rfl) (nar_lat t19.2.2) (Or.inr (by omega)) (by omega) at_325 ?_
    intro T137 h137 L137 X137 K137 z137 A137
    have A137 : Arc .char Z h137 x101 [d0, d1, d2, d3, d4, d5, d6, d7, d8, d9, d10, d11, d12, d13, d14, d15, d16, d17, d18, d19] := A137
    show Run _ _ _ _ _ _ _ _ _ _ _ _ _ T137 (mkF m 326 #[.val (.int mk), .val (.int x1), .val (.int x2), .val (.int x3), .val (.int tl), .val (.int ps), .val (.int ch), .unset, .unset, .unset, .unset, .unset, .unset, .unset] [(.ref x101)])
    have SL19 := SK19.keepC A136x K137 (wd hw 10 rfl)
    have hlD : Lat ([d0, d1, d2, d3, d4, d5, d6, d7, d8, d9, d10, d11, d12, d13, d14, d15, d16, d17, d18, d19] : List Int32) := lsS t0.2.2 (lsS t1.2.2 (lsS t2.2.2 (lsS t3.2.2 (lsS t4.2.2 (lsS t5.2.2 (lsS t6.2.2 (lsS t7.2.2 (lsS t8.2.2 (lsS t9.2.2 (lsS t10.2.2 (lsS t11.2.2 (lsS t12.2.2 (lsS t13.2.2 (lsS t14.2.2 (lsS t15.2.2 (lsS t16.2.2 (lsS t17.2.2 (lsS t18.2.2 (lsS t19.2.2 (ls0))))))))))))))))))))
    have hAt : ∀ i, i < 20 → AtR i ps ch (([d0, d1, d2, d3, d4, d5, d6, d7, d8, d9, d10, d11, d12, d13, d14, d15, d16, d17, d18, d19] : List Int32).getD i 0) := fun i hi => by
      match i, hi with
      | 0, _ => exact t0
      | 1, _ => exact t1
      | 2, _ => exact t2
      | 3, _ => exact t3
      | 4, _ => exact t4
      | 5, _ => exact t5
      | 6, _ => exact t6
      | 7, _ => exact t7
      | 8, _ => exact t8
      | 9, _ => exact t9
      | 10, _ => exact t10
      | 11, _ => exact t11
      | 12, _ => exact t12
      | 13, _ => exact t13
      | 14, _ => exact t14
      | 15, _ => exact t15
      | 16, _ => exact t16
      | 17, _ => exact t17
      | 18, _ => exact t18
      | 19, _ => exact t19
      | _ + 20, h => exact absurd h (by omega)
    refine Run.via (fun _ => XS.astore X137.at X137.ex rfl (X137.de at_326) rfl rfl (l' := #[.val (.int mk), .val (.int x1), .val (.int x2), .val (.int x3), .val (.int tl), .val (.int ps), .val (.int ch), .val (.ref x101), .unset, .unset, .unset, .unset, .unset, .unset]) rfl) ?_
    show Run _ _ _ _ _ _ _ _ _ _ _ _ _ T137 (mkF m 328 #[.val (.int mk), .val (.int x1), .val (.int x2), .val (.int x3), .val (.int tl), .val (.int ps), .val (.int ch), .val (.ref x101), .unset, .unset, .unset, .unset, .unset, .unset] [])
    refine Run.via (fun _ => XS.iloadN X137.at X137.ex rfl (X137.de at_328) rfl) ?_
    show Run _ _ _ _ _ _ _ _ _ _ _ _ _ T137 (mkF m 329 #[.val (.int mk), .val (.int x1), .val (.int x2), .val (.int x3), .val (.int tl), .val (.int ps), .val (.int ch), .val (.ref x101), .unset, .unset, .unset, .unset, .unset, .unset] [(.int x3)])
    refine Run.via (fun _ => XS.iconst X137.at X137.ex rfl (X137.de at_329)) ?_
    show Run _ _ _ _ _ _ _ _ _ _ _ _ _ T137 (mkF m 330 #[.val (.int mk), .val (.int x1), .val (.int x2), .val (.int x3), .val (.int tl), .val (.int ps), .val (.int ch), .val (.ref x101), .unset, .unset, .unset, .unset, .unset, .unset] [(.int (3 : Int32)), (.int x3)])
    refine Run.via (fun _ => XS.iand X137.at X137.ex rfl (X137.de at_330) rfl) ?_
    show Run _ _ _ _ _ _ _ _ _ _ _ _ _ T137 (mkF m 331 #[.val (.int mk), .val (.int x1), .val (.int x2), .val (.int x3), .val (.int tl), .val (.int ps), .val (.int ch), .val (.ref x101), .unset, .unset, .unset, .unset, .unset, .unset] [(.int (x3 &&& (3 : Int32)))])
    generalize hsl : (x3 &&& (3 : Int32)) = sel
    show Run _ _ _ _ _ _ _ _ _ _ _ _ _ T137 (mkF m 331 #[.val (.int mk), .val (.int x1), .val (.int x2), .val (.int x3), .val (.int tl), .val (.int ps), .val (.int ch), .val (.ref x101), .unset, .unset, .unset, .unset, .unset, .unset] [(.int sel)])
    have J711 : ∀ (Tj : State) (hk : Heap) (Lq : List Loc) (y : Addr) (n : Nat), (n = 17 ∨ n = 18 ∨ n = 20 ∨ n = 1) → Sit Z a0 EL (some ka) p l e room_1 s m #[(.int mk), (.int x1), (.int x2), (.int x3), (.int tl)] below meth c "com/example/veneer/veneer/ServiceIriIsServiceIriPinLaw" code maxLocals ret "law" h0 [] [x101] Tj hk Lq 6 140 → Str Z hk ka KT → Str Z hk y (([d0, d1, d2, d3, d4, d5, d6, d7, d8, d9, d10, d11, d12, d13, d14, d15, d16, d17, d18, d19] : List Int32).take n) → Run Z EL false false p e below s h0 [] (fun v _ => v = some (.int 1)) room_1.cells room_1.slots Tj (mkF m 711 #[.val (.int mk), .val (.int x1), .val (.int x2), .val (.int x3), .val (.int tl), .val (.int ps), .val (.int ch), .val (.ref x101), .val (.int sel), .val (.ref y), .val (.int (Int32.ofNat n)), .unset, .unset, .unset] []) := by
      intro Tj hk Lq y n hn Xj SK SY
      have hnl : (([d0, d1, d2, d3, d4, d5, d6, d7, d8, d9, d10, d11, d12, d13, d14, d15, d16, d17, d18, d19] : List Int32).take n).length = n := by rw [List.length_take]; simp; omega
      have hlY : Lat (([d0, d1, d2, d3, d4, d5, d6, d7, d8, d9, d10, d11, d12, d13, d14, d15, d16, d17, d18, d19] : List Int32).take n) := fun c q => hlD c (List.mem_of_mem_take q)
      refine Run.via (fun _ => XS.iconst Xj.at Xj.ex rfl (Xj.de at_711)) ?_
      show Run _ _ _ _ _ _ _ _ _ _ _ _ _ Tj (mkF m 712 #[.val (.int mk), .val (.int x1), .val (.int x2), .val (.int x3), .val (.int tl), .val (.int ps), .val (.int ch), .val (.ref x101), .val (.int sel), .val (.ref y), .val (.int (Int32.ofNat n)), .unset, .unset, .unset] [(.int (1 : Int32))])
      refine Run.via (fun _ => XS.istore Xj.at Xj.ex rfl (Xj.de at_712) rfl (l' := #[.val (.int mk), .val (.int x1), .val (.int x2), .val (.int x3), .val (.int tl), .val (.int ps), .val (.int ch), .val (.ref x101), .val (.int sel), .val (.ref y), .val (.int (Int32.ofNat n)), .val (.int (1 : Int32)), .unset, .unset]) rfl) ?_
      show Run _ _ _ _ _ _ _ _ _ _ _ _ _ Tj (mkF m 714 #[.val (.int mk), .val (.int x1), .val (.int x2), .val (.int x3), .val (.int tl), .val (.int ps), .val (.int ch), .val (.ref x101), .val (.int sel), .val (.ref y), .val (.int (Int32.ofNat n)), .val (.int (1 : Int32)), .unset, .unset] [])
      refine Run.via (fun _ => XS.iload Xj.at Xj.ex rfl (Xj.de at_714) rfl) ?_
      show Run _ _ _ _ _ _ _ _ _ _ _ _ _ Tj (mkF m 716 #[.val (.int mk), .val (.int x1), .val (.int x2), .val (.int x3), .val (.int tl), .val (.int ps), .val (.int ch), .val (.ref x101), .val (.int sel), .val (.ref y), .val (.int (Int32.ofNat n)), .val (.int (1 : Int32)), .unset, .unset] [(.int ps)])
      refine Run.via (fun _ => XS.bipush Xj.at Xj.ex rfl (Xj.de at_716)) ?_
      show Run _ _ _ _ _ _ _ _ _ _ _ _ _ Tj (mkF m 718 #[.val (.int mk), .val (.int x1), .val (.int x2), .val (.int x3), .val (.int tl), .val (.int ps), .val (.int ch), .val (.ref x101), .val (.int sel), .val (.ref y), .val (.int (Int32.ofNat n)), .val (.int (1 : Int32)), .unset, .unset] [(.int (18 : Int32)), (.int ps)])
      have J779 : ∀ (Tg : State) (hg : Heap) (Lq : List Loc) (ok : Int32) (sl sm : Slot), One sl → Sit Z a0 EL none p l e room_1 s m #[(.int mk), (.int x1), (.int x2), (.int x3), (.int tl)] below meth c "com/example/veneer/veneer/ServiceIriIsServiceIriPinLaw" code maxLocals ret "law" h0 [] [x101] Tg hg Lq 6 140 → Str Z hg y (([d0, d1, d2, d3, d4, d5, d6, d7, d8, d9, d10, d11, d12, d13, d14, d15, d16, d17, d18, d19] : List Int32).take n) → (18 ≤ n → ok = if aeB (fun j => eicV (StrChars.lo8 (([d0, d1, d2, d3, d4, d5, d6, d7, d8, d9, d10, d11, d12, d13, d14, d15, d16, d17, d18, d19] : List Int32).getD j 0)) (StrChars.lo8 (KT.getD j 0))) = true then 1 else 0) → Run Z EL false false p e below s h0 [] (fun v _ => v = some (.int 1)) room_1.cells room_1.slots Tg (mkF m 779 #[.val (.int mk), .val (.int x1), .val (.int x2), .val (.int x3), .val (.int tl), .val (.int ps), .val (.int ch), .val (.ref x101), .val (.int sel), .val (.ref y), .val (.int (Int32.ofNat n)), .val (.int ok), sl, sm] []) := by
        intro Tg hg Lq ok sl sm hsl Xg SY hok
        refine Run.via (fun _ => XS.iload Xg.at Xg.ex rfl (Xg.de at_779) rfl) ?_
        show Run _ _ _ _ _ _ _ _ _ _ _ _ _ Tg (mkF m 781 #[.val (.int mk), .val (.int x1), .val (.int x2), .val (.int x3), .val (.int tl), .val (.int ps), .val (.int ch), .val (.ref x101), .val (.int sel), .val (.ref y), .val (.int (Int32.ofNat n)), .val (.int ok), sl, sm] [(.int (Int32.ofNat n))])
        refine Run.via (fun _ => XS.bipush Xg.at Xg.ex rfl (Xg.de at_781)) ?_
        show Run _ _ _ _ _ _ _ _ _ _ _ _ _ Tg (mkF m 783 #[.val (.int mk), .val (.int x1), .val (.int x2), .val (.int x3), .val (.int tl), .val (.int ps), .val (.int ch), .val (.ref x101), .val (.int sel), .val (.ref y), .val (.int (Int32.ofNat n)), .val (.int ok), sl, sm] [(.int (18 : Int32)), (.int (Int32.ofNat n))])
        by_cases q0 : (Int32.ofNat n) < (18 : Int32)
        ·
          refine Run.via (fun _ => XS.icmpYes Xg.at Xg.ex rfl (pc0 := 783) (pc' := 795) rfl (Xg.de at_783) rfl (tlt q0).1 (by decide) (by decide)) ?_
          show Run _ _ _ _ _ _ _ _ _ _ _ _ _ Tg (mkF m 795 #[.val (.int mk), .val (.int x1), .val (.int x2), .val (.int x3), .val (.int tl), .val (.int ps), .val (.int ch), .val (.ref x101), .val (.int sel), .val (.ref y), .val (.int (Int32.ofNat n)), .val (.int ok), sl, sm] [])
          have hn18 : n < 18 := (i32lt (b := 18) (by omega) (by omega)).mp q0
          refine Run.via (fun _ => XS.iconst Xg.at Xg.ex rfl (Xg.de at_795)) ?_
          show Run _ _ _ _ _ _ _ _ _ _ _ _ _ Tg (mkF m 796 #[.val (.int mk), .val (.int x1), .val (.int x2), .val (.int x3), .val (.int tl), .val (.int ps), .val (.int ch), .val (.ref x101), .val (.int sel), .val (.ref y), .val (.int (Int32.ofNat n)), .val (.int ok), sl, sm] [(.int (0 : Int32))])
          refine Run.via (fun _ => XS.istoreS Xg.at Xg.ex rfl (Xg.de at_796) rfl rfl hsl) ?_
          show Run _ _ _ _ _ _ _ _ _ _ _ _ _ Tg (mkF m 798 #[.val (.int mk), .val (.int x1), .val (.int x2), .val (.int x3), .val (.int tl), .val (.int ps), .val (.int ch), .val (.ref x101), .val (.int sel), .val (.ref y), .val (.int (Int32.ofNat n)), .val (.int ok), .val (.int (0 : Int32)), sm] [])
          refine Run.via (fun _ => XS.aload Xg.at Xg.ex rfl (Xg.de at_798) rfl rfl) ?_
          show Run _ _ _ _ _ _ _ _ _ _ _ _ _ Tg (mkF m 800 #[.val (.int mk), .val (.int x1), .val (.int x2), .val (.int x3), .val (.int tl), .val (.int ps), .val (.int ch), .val (.ref x101), .val (.int sel), .val (.ref y), .val (.int (Int32.ofNat n)), .val (.int ok), .val (.int (0 : Int32)), sm] [(.ref y)])
          refine Run.callS Xg (y := (⟨"com/example/veneer/veneer/ServiceIri", "isServiceIri", "(Ljava/lang/String;)Z"⟩ : MethodName)) (W := 0) (con_si l hw hS hN hmI hlY (by rw [hnl]; exact hn) SY Xg.old) (wd hw 62 rfl) (wd hw 63 rfl) (wd hw 64 rfl) (wd hw 65 rfl) (by decide) pd__Ljava_lang_String__Z rfl (argsL := [(.ref y)]) (rest := []) rfl (Nat.le_of_ble_eq_true rfl) rfl at_800 (by decide) (by decide) (Nat.le_of_ble_eq_true rfl) (Nat.le_of_ble_eq_true rfl) (nofun) (nofun) ?_
          intro v138 T138 h138 L138 q138 X138 XF138 XK138 K138
          obtain rfl := q138
          show Run _ _ _ _ _ _ _ _ _ _ _ _ _ T138 (mkF m 803 #[.val (.int mk), .val (.int x1), .val (.int x2), .val (.int x3), .val (.int tl), .val (.int ps), .val (.int ch), .val (.ref x101), .val (.int sel), .val (.ref y), .val (.int (Int32.ofNat n)), .val (.int ok), .val (.int (0 : Int32)), sm] [(.int ((if 18 ≤ (([d0, d1, d2, d3, d4, d5, d6, d7, d8, d9, d10, d11, d12, d13, d14, d15, d16, d17, d18, d19] : List Int32).take n).length ∧ aeB (fun j => eicV (StrChars.lo8 ((([d0, d1, d2, d3, d4, d5, d6, d7, d8, d9, d10, d11, d12, d13, d14, d15, d16, d17, d18, d19] : List Int32).take n).getD j 0)) (StrChars.lo8 (KT.getD j 0))) = true then 1 else 0) : Int32))])
          rw [show ((if 18 ≤ (([d0, d1, d2, d3, d4, d5, d6, d7, d8, d9, d10, d11, d12, d13, d14, d15, d16, d17, d18, d19] : List Int32).take n).length ∧ aeB (fun j => eicV (StrChars.lo8 ((([d0, d1, d2, d3, d4, d5, d6, d7, d8, d9, d10, d11, d12, d13, d14, d15, d16, d17, d18, d19] : List Int32).take n).getD j 0)) (StrChars.lo8 (KT.getD j 0))) = true then 1 else 0) : Int32) = (0 : Int32) from if_neg (fun z => absurd z.1 (by omega))]
          show Run _ _ _ _ _ _ _ _ _ _ _ _ _ T138 (mkF m 803 #[.val (.int mk), .val (.int x1), .val (.int x2), .val (.int x3), .val (.int tl), .val (.int ps), .val (.int ch), .val (.ref x101), .val (.int sel), .val (.ref y), .val (.int (Int32.ofNat n)), .val (.int ok), .val (.int (0 : Int32)), sm] [(.int (0 : Int32))])
          refine Run.via (fun _ => XS.iload X138.at X138.ex rfl (X138.de at_803) rfl) ?_
          show Run _ _ _ _ _ _ _ _ _ _ _ _ _ T138 (mkF m 805 #[.val (.int mk), .val (.int x1), .val (.int x2), .val (.int x3), .val (.int tl), .val (.int ps), .val (.int ch), .val (.ref x101), .val (.int sel), .val (.ref y), .val (.int (Int32.ofNat n)), .val (.int ok), .val (.int (0 : Int32)), sm] [(.int (0 : Int32)), (.int (0 : Int32))])
          refine Run.via (fun _ => XS.icmpNo X138.at X138.ex rfl (X138.de at_805) rfl (teq (by decide : ((0 : Int32) = (0 : Int32)))).2) ?_
          show Run _ _ _ _ _ _ _ _ _ _ _ _ _ T138 (mkF m 808 #[.val (.int mk), .val (.int x1), .val (.int x2), .val (.int x3), .val (.int tl), .val (.int ps), .val (.int ch), .val (.ref x101), .val (.int sel), .val (.ref y), .val (.int (Int32.ofNat n)), .val (.int ok), .val (.int (0 : Int32)), sm] [])
          refine Run.via (fun _ => XS.iconst X138.at X138.ex rfl (X138.de at_808)) ?_
          show Run _ _ _ _ _ _ _ _ _ _ _ _ _ T138 (mkF m 809 #[.val (.int mk), .val (.int x1), .val (.int x2), .val (.int x3), .val (.int tl), .val (.int ps), .val (.int ch), .val (.ref x101), .val (.int sel), .val (.ref y), .val (.int (Int32.ofNat n)), .val (.int ok), .val (.int (0 : Int32)), sm] [(.int (1 : Int32))])
          refine Run.via (fun _ => XS.goto X138.at X138.ex rfl (pc0 := 809) (pc' := 813) rfl (X138.de at_809) (by decide) (by decide)) ?_
          show Run _ _ _ _ _ _ _ _ _ _ _ _ _ T138 (mkF m 813 #[.val (.int mk), .val (.int x1), .val (.int x2), .val (.int x3), .val (.int tl), .val (.int ps), .val (.int ch), .val (.ref x101), .val (.int sel), .val (.ref y), .val (.int (Int32.ofNat n)), .val (.int ok), .val (.int (0 : Int32)), sm] [(.int (1 : Int32))])
          exact Run.retN X138 (t := .boolean) rfl (by simp) at_813 (Nat.le_of_ble_eq_true rfl) (Nat.le_of_ble_eq_true rfl) (rfl)
        ·
          refine Run.via (fun _ => XS.icmpNo Xg.at Xg.ex rfl (Xg.de at_783) rfl (flt q0).1) ?_
          show Run _ _ _ _ _ _ _ _ _ _ _ _ _ Tg (mkF m 786 #[.val (.int mk), .val (.int x1), .val (.int x2), .val (.int x3), .val (.int tl), .val (.int ps), .val (.int ch), .val (.ref x101), .val (.int sel), .val (.ref y), .val (.int (Int32.ofNat n)), .val (.int ok), sl, sm] [])
          have hn18 : 18 ≤ n := by have := mt (i32lt (a := n) (b := 18) (by omega) (by omega)).mpr q0; omega
          have hok := hok hn18
          refine Run.via (fun _ => XS.iload Xg.at Xg.ex rfl (Xg.de at_786) rfl) ?_
          show Run _ _ _ _ _ _ _ _ _ _ _ _ _ Tg (mkF m 788 #[.val (.int mk), .val (.int x1), .val (.int x2), .val (.int x3), .val (.int tl), .val (.int ps), .val (.int ch), .val (.ref x101), .val (.int sel), .val (.ref y), .val (.int (Int32.ofNat n)), .val (.int ok), sl, sm] [(.int ok)])
          have ok01 : ok = 0 ∨ ok = 1 := by rw [hok]; exact (Decidable.em _).elim (fun z => Or.inr (if_pos z)) (fun z => Or.inl (if_neg z))
          by_cases q1 : ok = (0 : Int32)
          ·
            refine Run.via (fun _ => XS.ifYes Xg.at Xg.ex rfl (pc0 := 788) (pc' := 795) rfl (Xg.de at_788) rfl ((if0 _ _).trans (teq q1).1) (by decide) (by decide)) ?_
            show Run _ _ _ _ _ _ _ _ _ _ _ _ _ Tg (mkF m 795 #[.val (.int mk), .val (.int x1), .val (.int x2), .val (.int x3), .val (.int tl), .val (.int ps), .val (.int ch), .val (.ref x101), .val (.int sel), .val (.ref y), .val (.int (Int32.ofNat n)), .val (.int ok), sl, sm] [])
            refine Run.via (fun _ => XS.iconst Xg.at Xg.ex rfl (Xg.de at_795)) ?_
            show Run _ _ _ _ _ _ _ _ _ _ _ _ _ Tg (mkF m 796 #[.val (.int mk), .val (.int x1), .val (.int x2), .val (.int x3), .val (.int tl), .val (.int ps), .val (.int ch), .val (.ref x101), .val (.int sel), .val (.ref y), .val (.int (Int32.ofNat n)), .val (.int ok), sl, sm] [(.int (0 : Int32))])
            refine Run.via (fun _ => XS.istoreS Xg.at Xg.ex rfl (Xg.de at_796) rfl rfl hsl) ?_
            show Run _ _ _ _ _ _ _ _ _ _ _ _ _ Tg (mkF m 798 #[.val (.int mk), .val (.int x1), .val (.int x2), .val (.int x3), .val (.int tl), .val (.int ps), .val (.int ch), .val (.ref x101), .val (.int sel), .val (.ref y), .val (.int (Int32.ofNat n)), .val (.int ok), .val (.int (0 : Int32)), sm] [])
            refine Run.via (fun _ => XS.aload Xg.at Xg.ex rfl (Xg.de at_798) rfl rfl) ?_
            show Run _ _ _ _ _ _ _ _ _ _ _ _ _ Tg (mkF m 800 #[.val (.int mk), .val (.int x1), .val (.int x2), .val (.int x3), .val (.int tl), .val (.int ps), .val (.int ch), .val (.ref x101), .val (.int sel), .val (.ref y), .val (.int (Int32.ofNat n)), .val (.int ok), .val (.int (0 : Int32)), sm] [(.ref y)])
            refine Run.callS Xg (y := (⟨"com/example/veneer/veneer/ServiceIri", "isServiceIri", "(Ljava/lang/String;)Z"⟩ : MethodName)) (W := 0) (con_si l hw hS hN hmI hlY (by rw [hnl]; exact hn) SY Xg.old) (wd hw 62 rfl) (wd hw 63 rfl) (wd hw 64 rfl) (wd hw 65 rfl) (by decide) pd__Ljava_lang_String__Z rfl (argsL := [(.ref y)]) (rest := []) rfl (Nat.le_of_ble_eq_true rfl) rfl at_800 (by decide) (by decide) (Nat.le_of_ble_eq_true rfl) (Nat.le_of_ble_eq_true rfl) (nofun) (nofun) ?_
            intro v139 T139 h139 L139 q139 X139 XF139 XK139 K139
            obtain rfl := q139
            show Run _ _ _ _ _ _ _ _ _ _ _ _ _ T139 (mkF m 803 #[.val (.int mk), .val (.int x1), .val (.int x2), .val (.int x3), .val (.int tl), .val (.int ps), .val (.int ch), .val (.ref x101), .val (.int sel), .val (.ref y), .val (.int (Int32.ofNat n)), .val (.int ok), .val (.int (0 : Int32)), sm] [(.int ((if 18 ≤ (([d0, d1, d2, d3, d4, d5, d6, d7, d8, d9, d10, d11, d12, d13, d14, d15, d16, d17, d18, d19] : List Int32).take n).length ∧ aeB (fun j => eicV (StrChars.lo8 ((([d0, d1, d2, d3, d4, d5, d6, d7, d8, d9, d10, d11, d12, d13, d14, d15, d16, d17, d18, d19] : List Int32).take n).getD j 0)) (StrChars.lo8 (KT.getD j 0))) = true then 1 else 0) : Int32))])
            rw [show ((if 18 ≤ (([d0, d1, d2, d3, d4, d5, d6, d7, d8, d9, d10, d11, d12, d13, d14, d15, d16, d17, d18, d19] : List Int32).take n).length ∧ aeB (fun j => eicV (StrChars.lo8 ((([d0, d1, d2, d3, d4, d5, d6, d7, d8, d9, d10, d11, d12, d13, d14, d15, d16, d17, d18, d19] : List Int32).take n).getD j 0)) (StrChars.lo8 (KT.getD j 0))) = true then 1 else 0) : Int32) = (0 : Int32) from (by rw [expV hnl hn18, ← hok]; exact q1)]
            show Run _ _ _ _ _ _ _ _ _ _ _ _ _ T139 (mkF m 803 #[.val (.int mk), .val (.int x1), .val (.int x2), .val (.int x3), .val (.int tl), .val (.int ps), .val (.int ch), .val (.ref x101), .val (.int sel), .val (.ref y), .val (.int (Int32.ofNat n)), .val (.int ok), .val (.int (0 : Int32)), sm] [(.int (0 : Int32))])
            refine Run.via (fun _ => XS.iload X139.at X139.ex rfl (X139.de at_803) rfl) ?_
            show Run _ _ _ _ _ _ _ _ _ _ _ _ _ T139 (mkF m 805 #[.val (.int mk), .val (.int x1), .val (.int x2), .val (.int x3), .val (.int tl), .val (.int ps), .val (.int ch), .val (.ref x101), .val (.int sel), .val (.ref y), .val (.int (Int32.ofNat n)), .val (.int ok), .val (.int (0 : Int32)), sm] [(.int (0 : Int32)), (.int (0 : Int32))])
            refine Run.via (fun _ => XS.icmpNo X139.at X139.ex rfl (X139.de at_805) rfl (teq (by decide : ((0 : Int32) = (0 : Int32)))).2) ?_
            show Run _ _ _ _ _ _ _ _ _ _ _ _ _ T139 (mkF m 808 #[.val (.int mk), .val (.int x1), .val (.int x2), .val (.int x3), .val (.int tl), .val (.int ps), .val (.int ch), .val (.ref x101), .val (.int sel), .val (.ref y), .val (.int (Int32.ofNat n)), .val (.int ok), .val (.int (0 : Int32)), sm] [])
            refine Run.via (fun _ => XS.iconst X139.at X139.ex rfl (X139.de at_808)) ?_
            show Run _ _ _ _ _ _ _ _ _ _ _ _ _ T139 (mkF m 809 #[.val (.int mk), .val (.int x1), .val (.int x2), .val (.int x3), .val (.int tl), .val (.int ps), .val (.int ch), .val (.ref x101), .val (.int sel), .val (.ref y), .val (.int (Int32.ofNat n)), .val (.int ok), .val (.int (0 : Int32)), sm] [(.int (1 : Int32))])
            refine Run.via (fun _ => XS.goto X139.at X139.ex rfl (pc0 := 809) (pc' := 813) rfl (X139.de at_809) (by decide) (by decide)) ?_
            show Run _ _ _ _ _ _ _ _ _ _ _ _ _ T139 (mkF m 813 #[.val (.int mk), .val (.int x1), .val (.int x2), .val (.int x3), .val (.int tl), .val (.int ps), .val (.int ch), .val (.ref x101), .val (.int sel), .val (.ref y), .val (.int (Int32.ofNat n)), .val (.int ok), .val (.int (0 : Int32)), sm] [(.int (1 : Int32))])
            exact Run.retN X139 (t := .boolean) rfl (by simp) at_813 (Nat.le_of_ble_eq_true rfl) (Nat.le_of_ble_eq_true rfl) (rfl)
          ·
            refine Run.via (fun _ => XS.ifNo Xg.at Xg.ex rfl (Xg.de at_788) rfl ((if0 _ _).trans (feq q1).1)) ?_
            show Run _ _ _ _ _ _ _ _ _ _ _ _ _ Tg (mkF m 791 #[.val (.int mk), .val (.int x1), .val (.int x2), .val (.int x3), .val (.int tl), .val (.int ps), .val (.int ch), .val (.ref x101), .val (.int sel), .val (.ref y), .val (.int (Int32.ofNat n)), .val (.int ok), sl, sm] [])
            refine Run.via (fun _ => XS.iconst Xg.at Xg.ex rfl (Xg.de at_791)) ?_
            show Run _ _ _ _ _ _ _ _ _ _ _ _ _ Tg (mkF m 792 #[.val (.int mk), .val (.int x1), .val (.int x2), .val (.int x3), .val (.int tl), .val (.int ps), .val (.int ch), .val (.ref x101), .val (.int sel), .val (.ref y), .val (.int (Int32.ofNat n)), .val (.int ok), sl, sm] [(.int (1 : Int32))])
            refine Run.via (fun _ => XS.goto Xg.at Xg.ex rfl (pc0 := 792) (pc' := 796) rfl (Xg.de at_792) (by decide) (by decide)) ?_
            show Run _ _ _ _ _ _ _ _ _ _ _ _ _ Tg (mkF m 796 #[.val (.int mk), .val (.int x1), .val (.int x2), .val (.int x3), .val (.int tl), .val (.int ps), .val (.int ch), .val (.ref x101), .val (.int sel), .val (.ref y), .val (.int (Int32.ofNat n)), .val (.int ok), sl, sm] [(.int (1 : Int32))])
            refine Run.via (fun _ => XS.istoreS Xg.at Xg.ex rfl (Xg.de at_796) rfl rfl hsl) ?_
            show Run _ _ _ _ _ _ _ _ _ _ _ _ _ Tg (mkF m 798 #[.val (.int mk), .val (.int x1), .val (.int x2), .val (.int x3), .val (.int tl), .val (.int ps), .val (.int ch), .val (.ref x101), .val (.int sel), .val (.ref y), .val (.int (Int32.ofNat n)), .val (.int ok), .val (.int (1 : Int32)), sm] [])
            refine Run.via (fun _ => XS.aload Xg.at Xg.ex rfl (Xg.de at_798) rfl rfl) ?_
            show Run _ _ _ _ _ _ _ _ _ _ _ _ _ Tg (mkF m 800 #[.val (.int mk), .val (.int x1), .val (.int x2), .val (.int x3), .val (.int tl), .val (.int ps), .val (.int ch), .val (.ref x101), .val (.int sel), .val (.ref y), .val (.int (Int32.ofNat n)), .val (.int ok), .val (.int (1 : Int32)), sm] [(.ref y)])
            refine Run.callS Xg (y := (⟨"com/example/veneer/veneer/ServiceIri", "isServiceIri", "(Ljava/lang/String;)Z"⟩ : MethodName)) (W := 0) (con_si l hw hS hN hmI hlY (by rw [hnl]; exact hn) SY Xg.old) (wd hw 62 rfl) (wd hw 63 rfl) (wd hw 64 rfl) (wd hw 65 rfl) (by decide) pd__Ljava_lang_String__Z rfl (argsL := [(.ref y)]) (rest := []) rfl (Nat.le_of_ble_eq_true rfl) rfl at_800 (by decide) (by decide) (Nat.le_of_ble_eq_true rfl) (Nat.le_of_ble_eq_true rfl) (nofun) (nofun) ?_
            intro v140 T140 h140 L140 q140 X140 XF140 XK140 K140
            obtain rfl := q140
            show Run _ _ _ _ _ _ _ _ _ _ _ _ _ T140 (mkF m 803 #[.val (.int mk), .val (.int x1), .val (.int x2), .val (.int x3), .val (.int tl), .val (.int ps), .val (.int ch), .val (.ref x101), .val (.int sel), .val (.ref y), .val (.int (Int32.ofNat n)), .val (.int ok), .val (.int (1 : Int32)), sm] [(.int ((if 18 ≤ (([d0, d1, d2, d3, d4, d5, d6, d7, d8, d9, d10, d11, d12, d13, d14, d15, d16, d17, d18, d19] : List Int32).take n).length ∧ aeB (fun j => eicV (StrChars.lo8 ((([d0, d1, d2, d3, d4, d5, d6, d7, d8, d9, d10, d11, d12, d13, d14, d15, d16, d17, d18, d19] : List Int32).take n).getD j 0)) (StrChars.lo8 (KT.getD j 0))) = true then 1 else 0) : Int32))])
            rw [show ((if 18 ≤ (([d0, d1, d2, d3, d4, d5, d6, d7, d8, d9, d10, d11, d12, d13, d14, d15, d16, d17, d18, d19] : List Int32).take n).length ∧ aeB (fun j => eicV (StrChars.lo8 ((([d0, d1, d2, d3, d4, d5, d6, d7, d8, d9, d10, d11, d12, d13, d14, d15, d16, d17, d18, d19] : List Int32).take n).getD j 0)) (StrChars.lo8 (KT.getD j 0))) = true then 1 else 0) : Int32) = (1 : Int32) from (by rw [expV hnl hn18, ← hok]; exact (ok01.resolve_left q1))]
            show Run _ _ _ _ _ _ _ _ _ _ _ _ _ T140 (mkF m 803 #[.val (.int mk), .val (.int x1), .val (.int x2), .val (.int x3), .val (.int tl), .val (.int ps), .val (.int ch), .val (.ref x101), .val (.int sel), .val (.ref y), .val (.int (Int32.ofNat n)), .val (.int ok), .val (.int (1 : Int32)), sm] [(.int (1 : Int32))])
            refine Run.via (fun _ => XS.iload X140.at X140.ex rfl (X140.de at_803) rfl) ?_
            show Run _ _ _ _ _ _ _ _ _ _ _ _ _ T140 (mkF m 805 #[.val (.int mk), .val (.int x1), .val (.int x2), .val (.int x3), .val (.int tl), .val (.int ps), .val (.int ch), .val (.ref x101), .val (.int sel), .val (.ref y), .val (.int (Int32.ofNat n)), .val (.int ok), .val (.int (1 : Int32)), sm] [(.int (1 : Int32)), (.int (1 : Int32))])
            refine Run.via (fun _ => XS.icmpNo X140.at X140.ex rfl (X140.de at_805) rfl (teq (by decide : ((1 : Int32) = (1 : Int32)))).2) ?_
            show Run _ _ _ _ _ _ _ _ _ _ _ _ _ T140 (mkF m 808 #[.val (.int mk), .val (.int x1), .val (.int x2), .val (.int x3), .val (.int tl), .val (.int ps), .val (.int ch), .val (.ref x101), .val (.int sel), .val (.ref y), .val (.int (Int32.ofNat n)), .val (.int ok), .val (.int (1 : Int32)), sm] [])
            refine Run.via (fun _ => XS.iconst X140.at X140.ex rfl (X140.de at_808)) ?_
            show Run _ _ _ _ _ _ _ _ _ _ _ _ _ T140 (mkF m 809 #[.val (.int mk), .val (.int x1), .val (.int x2), .val (.int x3), .val (.int tl), .val (.int ps), .val (.int ch), .val (.ref x101), .val (.int sel), .val (.ref y), .val (.int (Int32.ofNat n)), .val (.int ok), .val (.int (1 : Int32)), sm] [(.int (1 : Int32))])
            refine Run.via (fun _ => XS.goto X140.at X140.ex rfl (pc0 := 809) (pc' := 813) rfl (X140.de at_809) (by decide) (by decide)) ?_
            show Run _ _ _ _ _ _ _ _ _ _ _ _ _ T140 (mkF m 813 #[.val (.int mk), .val (.int x1), .val (.int x2), .val (.int x3), .val (.int tl), .val (.int ps), .val (.int ch), .val (.ref x101), .val (.int sel), .val (.ref y), .val (.int (Int32.ofNat n)), .val (.int ok), .val (.int (1 : Int32)), sm] [(.int (1 : Int32))])
            exact Run.retN X140 (t := .boolean) rfl (by simp) at_813 (Nat.le_of_ble_eq_true rfl) (Nat.le_of_ble_eq_true rfl) (rfl)
      by_cases q0 : ps < (18 : Int32)
      ·
        refine Run.via (fun _ => XS.icmpNo Xj.at Xj.ex rfl (Xj.de at_718) rfl (tlt q0).2.1) ?_
        show Run _ _ _ _ _ _ _ _ _ _ _ _ _ Tj (mkF m 721 #[.val (.int mk), .val (.int x1), .val (.int x2), .val (.int x3), .val (.int tl), .val (.int ps), .val (.int ch), .val (.ref x101), .val (.int sel), .val (.ref y), .val (.int (Int32.ofNat n)), .val (.int (1 : Int32)), .unset, .unset] [])
        obtain ⟨k, hk32, rfl⟩ := rps
        have hk18 : k < 18 := (i32lt (b := 18) (by omega) (by omega)).mp q0
        show Run _ _ _ _ _ _ _ _ _ _ _ _ _ Tj (mkF m 721 #[.val (.int mk), .val (.int x1), .val (.int x2), .val (.int x3), .val (.int tl), .val (.int (Int32.ofNat k)), .val (.int ch), .val (.ref x101), .val (.int sel), .val (.ref y), .val (.int (Int32.ofNat n)), .val (.int (1 : Int32)), .unset, .unset] [])
        refine Run.via (fun _ => XS.iload Xj.at Xj.ex rfl (Xj.de at_721) rfl) ?_
        show Run _ _ _ _ _ _ _ _ _ _ _ _ _ Tj (mkF m 723 #[.val (.int mk), .val (.int x1), .val (.int x2), .val (.int x3), .val (.int tl), .val (.int (Int32.ofNat k)), .val (.int ch), .val (.ref x101), .val (.int sel), .val (.ref y), .val (.int (Int32.ofNat n)), .val (.int (1 : Int32)), .unset, .unset] [(.int (Int32.ofNat k))])
        refine Run.callS Xj (y := (⟨"com/example/veneer/veneer/ServiceIriIsServiceIriPinLaw", "pre", "(I)C"⟩ : MethodName)) (W := 0) (con_prK l hw hS SK hk18 Xj.old) (wd hw 5 rfl) (wd hw 6 rfl) (wd hw 3 rfl) (wd hw 7 rfl) (by decide) pd__I_C rfl (argsL := [(.int (Int32.ofNat k))]) (rest := []) rfl (Nat.le_of_ble_eq_true rfl) rfl at_723 (by decide) (by decide) (Nat.le_of_ble_eq_true rfl) (Nat.le_of_ble_eq_true rfl) (nofun) (nofun) ?_
        intro v141 T141 h141 L141 q141 X141 XF141 XK141 K141
        obtain rfl := q141
        show Run _ _ _ _ _ _ _ _ _ _ _ _ _ T141 (mkF m 726 #[.val (.int mk), .val (.int x1), .val (.int x2), .val (.int x3), .val (.int tl), .val (.int (Int32.ofNat k)), .val (.int ch), .val (.ref x101), .val (.int sel), .val (.ref y), .val (.int (Int32.ofNat n)), .val (.int (1 : Int32)), .unset, .unset] [(.int (KT.getD k 0))])
        have SY1 := SY.keep K141
        have dk : ([d0, d1, d2, d3, d4, d5, d6, d7, d8, d9, d10, d11, d12, d13, d14, d15, d16, d17, d18, d19] : List Int32).getD k 0 = ch := (hAt k (by omega)).1 rfl
        have rest : ∀ j, j < 18 → ¬ j = k → ¬ eicV (StrChars.lo8 (([d0, d1, d2, d3, d4, d5, d6, d7, d8, d9, d10, d11, d12, d13, d14, d15, d16, d17, d18, d19] : List Int32).getD j 0)) (StrChars.lo8 (KT.getD j 0)) = 0 := fun j hj hne z => absurd (((hAt j (by omega)).2.1 (fun y => hne ((i32eq (by omega) (by omega)).mp y)) hj).symm.trans z) (by decide : ¬ (1 : Int32) = 0)
        refine Run.via (fun _ => XS.istore X141.at X141.ex rfl (X141.de at_726) rfl (l' := #[.val (.int mk), .val (.int x1), .val (.int x2), .val (.int x3), .val (.int tl), .val (.int (Int32.ofNat k)), .val (.int ch), .val (.ref x101), .val (.int sel), .val (.ref y), .val (.int (Int32.ofNat n)), .val (.int (1 : Int32)), .val (.int (KT.getD k 0)), .unset]) rfl) ?_
        show Run _ _ _ _ _ _ _ _ _ _ _ _ _ T141 (mkF m 728 #[.val (.int mk), .val (.int x1), .val (.int x2), .val (.int x3), .val (.int tl), .val (.int (Int32.ofNat k)), .val (.int ch), .val (.ref x101), .val (.int sel), .val (.ref y), .val (.int (Int32.ofNat n)), .val (.int (1 : Int32)), .val (.int (KT.getD k 0)), .unset] [])
        refine Run.via (fun _ => XS.iload X141.at X141.ex rfl (X141.de at_728) rfl) ?_
        show Run _ _ _ _ _ _ _ _ _ _ _ _ _ T141 (mkF m 730 #[.val (.int mk), .val (.int x1), .val (.int x2), .val (.int x3), .val (.int tl), .val (.int (Int32.ofNat k)), .val (.int ch), .val (.ref x101), .val (.int sel), .val (.ref y), .val (.int (Int32.ofNat n)), .val (.int (1 : Int32)), .val (.int (KT.getD k 0)), .unset] [(.int (KT.getD k 0))])
        refine Run.via (fun _ => XS.bipush X141.at X141.ex rfl (X141.de at_730)) ?_
        show Run _ _ _ _ _ _ _ _ _ _ _ _ _ T141 (mkF m 732 #[.val (.int mk), .val (.int x1), .val (.int x2), .val (.int x3), .val (.int tl), .val (.int (Int32.ofNat k)), .val (.int ch), .val (.ref x101), .val (.int sel), .val (.ref y), .val (.int (Int32.ofNat n)), .val (.int (1 : Int32)), .val (.int (KT.getD k 0)), .unset] [(.int (97 : Int32)), (.int (KT.getD k 0))])
        by_cases l1 : (KT.getD k 0) < (97 : Int32)
        ·
          refine Run.via (fun _ => XS.icmpYes X141.at X141.ex rfl (pc0 := 732) (pc' := 746) rfl (X141.de at_732) rfl (tlt l1).1 (by decide) (by decide)) ?_
          show Run _ _ _ _ _ _ _ _ _ _ _ _ _ T141 (mkF m 746 #[.val (.int mk), .val (.int x1), .val (.int x2), .val (.int x3), .val (.int tl), .val (.int (Int32.ofNat k)), .val (.int ch), .val (.ref x101), .val (.int sel), .val (.ref y), .val (.int (Int32.ofNat n)), .val (.int (1 : Int32)), .val (.int (KT.getD k 0)), .unset] [])
          refine Run.via (fun _ => XS.iconst X141.at X141.ex rfl (X141.de at_746)) ?_
          show Run _ _ _ _ _ _ _ _ _ _ _ _ _ T141 (mkF m 747 #[.val (.int mk), .val (.int x1), .val (.int x2), .val (.int x3), .val (.int tl), .val (.int (Int32.ofNat k)), .val (.int ch), .val (.ref x101), .val (.int sel), .val (.ref y), .val (.int (Int32.ofNat n)), .val (.int (1 : Int32)), .val (.int (KT.getD k 0)), .unset] [(.int (0 : Int32))])
          refine Run.via (fun _ => XS.istore X141.at X141.ex rfl (X141.de at_747) rfl (l' := #[.val (.int mk), .val (.int x1), .val (.int x2), .val (.int x3), .val (.int tl), .val (.int (Int32.ofNat k)), .val (.int ch), .val (.ref x101), .val (.int sel), .val (.ref y), .val (.int (Int32.ofNat n)), .val (.int (1 : Int32)), .val (.int (KT.getD k 0)), .val (.int (0 : Int32))]) rfl) ?_
          show Run _ _ _ _ _ _ _ _ _ _ _ _ _ T141 (mkF m 749 #[.val (.int mk), .val (.int x1), .val (.int x2), .val (.int x3), .val (.int tl), .val (.int (Int32.ofNat k)), .val (.int ch), .val (.ref x101), .val (.int sel), .val (.ref y), .val (.int (Int32.ofNat n)), .val (.int (1 : Int32)), .val (.int (KT.getD k 0)), .val (.int (0 : Int32))] [])
          refine Run.via (fun _ => XS.iload X141.at X141.ex rfl (X141.de at_749) rfl) ?_
          show Run _ _ _ _ _ _ _ _ _ _ _ _ _ T141 (mkF m 751 #[.val (.int mk), .val (.int x1), .val (.int x2), .val (.int x3), .val (.int tl), .val (.int (Int32.ofNat k)), .val (.int ch), .val (.ref x101), .val (.int sel), .val (.ref y), .val (.int (Int32.ofNat n)), .val (.int (1 : Int32)), .val (.int (KT.getD k 0)), .val (.int (0 : Int32))] [(.int ch)])
          refine Run.via (fun _ => XS.iload X141.at X141.ex rfl (X141.de at_751) rfl) ?_
          show Run _ _ _ _ _ _ _ _ _ _ _ _ _ T141 (mkF m 753 #[.val (.int mk), .val (.int x1), .val (.int x2), .val (.int x3), .val (.int tl), .val (.int (Int32.ofNat k)), .val (.int ch), .val (.ref x101), .val (.int sel), .val (.ref y), .val (.int (Int32.ofNat n)), .val (.int (1 : Int32)), .val (.int (KT.getD k 0)), .val (.int (0 : Int32))] [(.int (KT.getD k 0)), (.int ch)])
          by_cases e1 : ch = (KT.getD k 0)
          ·
            refine Run.via (fun _ => XS.icmpYes X141.at X141.ex rfl (pc0 := 753) (pc' := 772) rfl (X141.de at_753) rfl (teq e1).1 (by decide) (by decide)) ?_
            show Run _ _ _ _ _ _ _ _ _ _ _ _ _ T141 (mkF m 772 #[.val (.int mk), .val (.int x1), .val (.int x2), .val (.int x3), .val (.int tl), .val (.int (Int32.ofNat k)), .val (.int ch), .val (.ref x101), .val (.int sel), .val (.ref y), .val (.int (Int32.ofNat n)), .val (.int (1 : Int32)), .val (.int (KT.getD k 0)), .val (.int (0 : Int32))] [])
            refine Run.via (fun _ => XS.iconst X141.at X141.ex rfl (X141.de at_772)) ?_
            show Run _ _ _ _ _ _ _ _ _ _ _ _ _ T141 (mkF m 773 #[.val (.int mk), .val (.int x1), .val (.int x2), .val (.int x3), .val (.int tl), .val (.int (Int32.ofNat k)), .val (.int ch), .val (.ref x101), .val (.int sel), .val (.ref y), .val (.int (Int32.ofNat n)), .val (.int (1 : Int32)), .val (.int (KT.getD k 0)), .val (.int (0 : Int32))] [(.int (1 : Int32))])
            refine Run.via (fun _ => XS.goto X141.at X141.ex rfl (pc0 := 773) (pc' := 777) rfl (X141.de at_773) (by decide) (by decide)) ?_
            show Run _ _ _ _ _ _ _ _ _ _ _ _ _ T141 (mkF m 777 #[.val (.int mk), .val (.int x1), .val (.int x2), .val (.int x3), .val (.int tl), .val (.int (Int32.ofNat k)), .val (.int ch), .val (.ref x101), .val (.int sel), .val (.ref y), .val (.int (Int32.ofNat n)), .val (.int (1 : Int32)), .val (.int (KT.getD k 0)), .val (.int (0 : Int32))] [(.int (1 : Int32))])
            refine Run.via (fun _ => XS.istore X141.at X141.ex rfl (X141.de at_777) rfl (l' := #[.val (.int mk), .val (.int x1), .val (.int x2), .val (.int x3), .val (.int tl), .val (.int (Int32.ofNat k)), .val (.int ch), .val (.ref x101), .val (.int sel), .val (.ref y), .val (.int (Int32.ofNat n)), .val (.int (1 : Int32)), .val (.int (KT.getD k 0)), .val (.int (0 : Int32))]) rfl) ?_
            show Run _ _ _ _ _ _ _ _ _ _ _ _ _ T141 (mkF m 779 #[.val (.int mk), .val (.int x1), .val (.int x2), .val (.int x3), .val (.int tl), .val (.int (Int32.ofNat k)), .val (.int ch), .val (.ref x101), .val (.int sel), .val (.ref y), .val (.int (Int32.ofNat n)), .val (.int (1 : Int32)), .val (.int (KT.getD k 0)), .val (.int (0 : Int32))] [])
            exact J779 _ _ _ _ _ _ (One.val rfl) (X141.forget) SY1 (fun _ => okV hk18 rest dk rc ((if_pos (Or.inl e1)).symm))
          ·
            refine Run.via (fun _ => XS.icmpNo X141.at X141.ex rfl (X141.de at_753) rfl (feq e1).1) ?_
            show Run _ _ _ _ _ _ _ _ _ _ _ _ _ T141 (mkF m 756 #[.val (.int mk), .val (.int x1), .val (.int x2), .val (.int x3), .val (.int tl), .val (.int (Int32.ofNat k)), .val (.int ch), .val (.ref x101), .val (.int sel), .val (.ref y), .val (.int (Int32.ofNat n)), .val (.int (1 : Int32)), .val (.int (KT.getD k 0)), .val (.int (0 : Int32))] [])
            refine Run.via (fun _ => XS.iload X141.at X141.ex rfl (X141.de at_756) rfl) ?_
            show Run _ _ _ _ _ _ _ _ _ _ _ _ _ T141 (mkF m 758 #[.val (.int mk), .val (.int x1), .val (.int x2), .val (.int x3), .val (.int tl), .val (.int (Int32.ofNat k)), .val (.int ch), .val (.ref x101), .val (.int sel), .val (.ref y), .val (.int (Int32.ofNat n)), .val (.int (1 : Int32)), .val (.int (KT.getD k 0)), .val (.int (0 : Int32))] [(.int (0 : Int32))])
            refine Run.via (fun _ => XS.ifYes X141.at X141.ex rfl (pc0 := 758) (pc' := 776) rfl (X141.de at_758) rfl ((if0 _ _).trans (teq (by decide : ((0 : Int32) = (0 : Int32)))).1) (by decide) (by decide)) ?_
            show Run _ _ _ _ _ _ _ _ _ _ _ _ _ T141 (mkF m 776 #[.val (.int mk), .val (.int x1), .val (.int x2), .val (.int x3), .val (.int tl), .val (.int (Int32.ofNat k)), .val (.int ch), .val (.ref x101), .val (.int sel), .val (.ref y), .val (.int (Int32.ofNat n)), .val (.int (1 : Int32)), .val (.int (KT.getD k 0)), .val (.int (0 : Int32))] [])
            refine Run.via (fun _ => XS.iconst X141.at X141.ex rfl (X141.de at_776)) ?_
            show Run _ _ _ _ _ _ _ _ _ _ _ _ _ T141 (mkF m 777 #[.val (.int mk), .val (.int x1), .val (.int x2), .val (.int x3), .val (.int tl), .val (.int (Int32.ofNat k)), .val (.int ch), .val (.ref x101), .val (.int sel), .val (.ref y), .val (.int (Int32.ofNat n)), .val (.int (1 : Int32)), .val (.int (KT.getD k 0)), .val (.int (0 : Int32))] [(.int (0 : Int32))])
            refine Run.via (fun _ => XS.istore X141.at X141.ex rfl (X141.de at_777) rfl (l' := #[.val (.int mk), .val (.int x1), .val (.int x2), .val (.int x3), .val (.int tl), .val (.int (Int32.ofNat k)), .val (.int ch), .val (.ref x101), .val (.int sel), .val (.ref y), .val (.int (Int32.ofNat n)), .val (.int (0 : Int32)), .val (.int (KT.getD k 0)), .val (.int (0 : Int32))]) rfl) ?_
            show Run _ _ _ _ _ _ _ _ _ _ _ _ _ T141 (mkF m 779 #[.val (.int mk), .val (.int x1), .val (.int x2), .val (.int x3), .val (.int tl), .val (.int (Int32.ofNat k)), .val (.int ch), .val (.ref x101), .val (.int sel), .val (.ref y), .val (.int (Int32.ofNat n)), .val (.int (0 : Int32)), .val (.int (KT.getD k 0)), .val (.int (0 : Int32))] [])
            exact J779 _ _ _ _ _ _ (One.val rfl) (X141.forget) SY1 (fun _ => okV hk18 rest dk rc ((if_neg (fun z => z.elim e1 (fun y => y.1.1 l1))).symm))
        ·
          refine Run.via (fun _ => XS.icmpNo X141.at X141.ex rfl (X141.de at_732) rfl (flt l1).1) ?_
          show Run _ _ _ _ _ _ _ _ _ _ _ _ _ T141 (mkF m 735 #[.val (.int mk), .val (.int x1), .val (.int x2), .val (.int x3), .val (.int tl), .val (.int (Int32.ofNat k)), .val (.int ch), .val (.ref x101), .val (.int sel), .val (.ref y), .val (.int (Int32.ofNat n)), .val (.int (1 : Int32)), .val (.int (KT.getD k 0)), .unset] [])
          refine Run.via (fun _ => XS.iload X141.at X141.ex rfl (X141.de at_735) rfl) ?_
          show Run _ _ _ _ _ _ _ _ _ _ _ _ _ T141 (mkF m 737 #[.val (.int mk), .val (.int x1), .val (.int x2), .val (.int x3), .val (.int tl), .val (.int (Int32.ofNat k)), .val (.int ch), .val (.ref x101), .val (.int sel), .val (.ref y), .val (.int (Int32.ofNat n)), .val (.int (1 : Int32)), .val (.int (KT.getD k 0)), .unset] [(.int (KT.getD k 0))])
          refine Run.via (fun _ => XS.bipush X141.at X141.ex rfl (X141.de at_737)) ?_
          show Run _ _ _ _ _ _ _ _ _ _ _ _ _ T141 (mkF m 739 #[.val (.int mk), .val (.int x1), .val (.int x2), .val (.int x3), .val (.int tl), .val (.int (Int32.ofNat k)), .val (.int ch), .val (.ref x101), .val (.int sel), .val (.ref y), .val (.int (Int32.ofNat n)), .val (.int (1 : Int32)), .val (.int (KT.getD k 0)), .unset] [(.int (122 : Int32)), (.int (KT.getD k 0))])
          by_cases l2 : (122 : Int32) < (KT.getD k 0)
          ·
            refine Run.via (fun _ => XS.icmpYes X141.at X141.ex rfl (pc0 := 739) (pc' := 746) rfl (X141.de at_739) rfl (tlt l2).2.2.1 (by decide) (by decide)) ?_
            show Run _ _ _ _ _ _ _ _ _ _ _ _ _ T141 (mkF m 746 #[.val (.int mk), .val (.int x1), .val (.int x2), .val (.int x3), .val (.int tl), .val (.int (Int32.ofNat k)), .val (.int ch), .val (.ref x101), .val (.int sel), .val (.ref y), .val (.int (Int32.ofNat n)), .val (.int (1 : Int32)), .val (.int (KT.getD k 0)), .unset] [])
            refine Run.via (fun _ => XS.iconst X141.at X141.ex rfl (X141.de at_746)) ?_
            show Run _ _ _ _ _ _ _ _ _ _ _ _ _ T141 (mkF m 747 #[.val (.int mk), .val (.int x1), .val (.int x2), .val (.int x3), .val (.int tl), .val (.int (Int32.ofNat k)), .val (.int ch), .val (.ref x101), .val (.int sel), .val (.ref y), .val (.int (Int32.ofNat n)), .val (.int (1 : Int32)), .val (.int (KT.getD k 0)), .unset] [(.int (0 : Int32))])
            refine Run.via (fun _ => XS.istore X141.at X141.ex rfl (X141.de at_747) rfl (l' := #[.val (.int mk), .val (.int x1), .val (.int x2), .val (.int x3), .val (.int tl), .val (.int (Int32.ofNat k)), .val (.int ch), .val (.ref x101), .val (.int sel), .val (.ref y), .val (.int (Int32.ofNat n)), .val (.int (1 : Int32)), .val (.int (KT.getD k 0)), .val (.int (0 : Int32))]) rfl) ?_
            show Run _ _ _ _ _ _ _ _ _ _ _ _ _ T141 (mkF m 749 #[.val (.int mk), .val (.int x1), .val (.int x2), .val (.int x3), .val (.int tl), .val (.int (Int32.ofNat k)), .val (.int ch), .val (.ref x101), .val (.int sel), .val (.ref y), .val (.int (Int32.ofNat n)), .val (.int (1 : Int32)), .val (.int (KT.getD k 0)), .val (.int (0 : Int32))] [])
            refine Run.via (fun _ => XS.iload X141.at X141.ex rfl (X141.de at_749) rfl) ?_
            show Run _ _ _ _ _ _ _ _ _ _ _ _ _ T141 (mkF m 751 #[.val (.int mk), .val (.int x1), .val (.int x2), .val (.int x3), .val (.int tl), .val (.int (Int32.ofNat k)), .val (.int ch), .val (.ref x101), .val (.int sel), .val (.ref y), .val (.int (Int32.ofNat n)), .val (.int (1 : Int32)), .val (.int (KT.getD k 0)), .val (.int (0 : Int32))] [(.int ch)])
            refine Run.via (fun _ => XS.iload X141.at X141.ex rfl (X141.de at_751) rfl) ?_
            show Run _ _ _ _ _ _ _ _ _ _ _ _ _ T141 (mkF m 753 #[.val (.int mk), .val (.int x1), .val (.int x2), .val (.int x3), .val (.int tl), .val (.int (Int32.ofNat k)), .val (.int ch), .val (.ref x101), .val (.int sel), .val (.ref y), .val (.int (Int32.ofNat n)), .val (.int (1 : Int32)), .val (.int (KT.getD k 0)), .val (.int (0 : Int32))] [(.int (KT.getD k 0)), (.int ch)])
            by_cases e1 : ch = (KT.getD k 0)
            ·
              refine Run.via (fun _ => XS.icmpYes X141.at X141.ex rfl (pc0 := 753) (pc' := 772) rfl (X141.de at_753) rfl (teq e1).1 (by decide) (by decide)) ?_
              show Run _ _ _ _ _ _ _ _ _ _ _ _ _ T141 (mkF m 772 #[.val (.int mk), .val (.int x1), .val (.int x2), .val (.int x3), .val (.int tl), .val (.int (Int32.ofNat k)), .val (.int ch), .val (.ref x101), .val (.int sel), .val (.ref y), .val (.int (Int32.ofNat n)), .val (.int (1 : Int32)), .val (.int (KT.getD k 0)), .val (.int (0 : Int32))] [])
              refine Run.via (fun _ => XS.iconst X141.at X141.ex rfl (X141.de at_772)) ?_
              show Run _ _ _ _ _ _ _ _ _ _ _ _ _ T141 (mkF m 773 #[.val (.int mk), .val (.int x1), .val (.int x2), .val (.int x3), .val (.int tl), .val (.int (Int32.ofNat k)), .val (.int ch), .val (.ref x101), .val (.int sel), .val (.ref y), .val (.int (Int32.ofNat n)), .val (.int (1 : Int32)), .val (.int (KT.getD k 0)), .val (.int (0 : Int32))] [(.int (1 : Int32))])
              refine Run.via (fun _ => XS.goto X141.at X141.ex rfl (pc0 := 773) (pc' := 777) rfl (X141.de at_773) (by decide) (by decide)) ?_
              show Run _ _ _ _ _ _ _ _ _ _ _ _ _ T141 (mkF m 777 #[.val (.int mk), .val (.int x1), .val (.int x2), .val (.int x3), .val (.int tl), .val (.int (Int32.ofNat k)), .val (.int ch), .val (.ref x101), .val (.int sel), .val (.ref y), .val (.int (Int32.ofNat n)), .val (.int (1 : Int32)), .val (.int (KT.getD k 0)), .val (.int (0 : Int32))] [(.int (1 : Int32))])
              refine Run.via (fun _ => XS.istore X141.at X141.ex rfl (X141.de at_777) rfl (l' := #[.val (.int mk), .val (.int x1), .val (.int x2), .val (.int x3), .val (.int tl), .val (.int (Int32.ofNat k)), .val (.int ch), .val (.ref x101), .val (.int sel), .val (.ref y), .val (.int (Int32.ofNat n)), .val (.int (1 : Int32)), .val (.int (KT.getD k 0)), .val (.int (0 : Int32))]) rfl) ?_
              show Run _ _ _ _ _ _ _ _ _ _ _ _ _ T141 (mkF m 779 #[.val (.int mk), .val (.int x1), .val (.int x2), .val (.int x3), .val (.int tl), .val (.int (Int32.ofNat k)), .val (.int ch), .val (.ref x101), .val (.int sel), .val (.ref y), .val (.int (Int32.ofNat n)), .val (.int (1 : Int32)), .val (.int (KT.getD k 0)), .val (.int (0 : Int32))] [])
              exact J779 _ _ _ _ _ _ (One.val rfl) (X141.forget) SY1 (fun _ => okV hk18 rest dk rc ((if_pos (Or.inl e1)).symm))
            ·
              refine Run.via (fun _ => XS.icmpNo X141.at X141.ex rfl (X141.de at_753) rfl (feq e1).1) ?_
              show Run _ _ _ _ _ _ _ _ _ _ _ _ _ T141 (mkF m 756 #[.val (.int mk), .val (.int x1), .val (.int x2), .val (.int x3), .val (.int tl), .val (.int (Int32.ofNat k)), .val (.int ch), .val (.ref x101), .val (.int sel), .val (.ref y), .val (.int (Int32.ofNat n)), .val (.int (1 : Int32)), .val (.int (KT.getD k 0)), .val (.int (0 : Int32))] [])
              refine Run.via (fun _ => XS.iload X141.at X141.ex rfl (X141.de at_756) rfl) ?_
              show Run _ _ _ _ _ _ _ _ _ _ _ _ _ T141 (mkF m 758 #[.val (.int mk), .val (.int x1), .val (.int x2), .val (.int x3), .val (.int tl), .val (.int (Int32.ofNat k)), .val (.int ch), .val (.ref x101), .val (.int sel), .val (.ref y), .val (.int (Int32.ofNat n)), .val (.int (1 : Int32)), .val (.int (KT.getD k 0)), .val (.int (0 : Int32))] [(.int (0 : Int32))])
              refine Run.via (fun _ => XS.ifYes X141.at X141.ex rfl (pc0 := 758) (pc' := 776) rfl (X141.de at_758) rfl ((if0 _ _).trans (teq (by decide : ((0 : Int32) = (0 : Int32)))).1) (by decide) (by decide)) ?_
              show Run _ _ _ _ _ _ _ _ _ _ _ _ _ T141 (mkF m 776 #[.val (.int mk), .val (.int x1), .val (.int x2), .val (.int x3), .val (.int tl), .val (.int (Int32.ofNat k)), .val (.int ch), .val (.ref x101), .val (.int sel), .val (.ref y), .val (.int (Int32.ofNat n)), .val (.int (1 : Int32)), .val (.int (KT.getD k 0)), .val (.int (0 : Int32))] [])
              refine Run.via (fun _ => XS.iconst X141.at X141.ex rfl (X141.de at_776)) ?_
              show Run _ _ _ _ _ _ _ _ _ _ _ _ _ T141 (mkF m 777 #[.val (.int mk), .val (.int x1), .val (.int x2), .val (.int x3), .val (.int tl), .val (.int (Int32.ofNat k)), .val (.int ch), .val (.ref x101), .val (.int sel), .val (.ref y), .val (.int (Int32.ofNat n)), .val (.int (1 : Int32)), .val (.int (KT.getD k 0)), .val (.int (0 : Int32))] [(.int (0 : Int32))])
              refine Run.via (fun _ => XS.istore X141.at X141.ex rfl (X141.de at_777) rfl (l' := #[.val (.int mk), .val (.int x1), .val (.int x2), .val (.int x3), .val (.int tl), .val (.int (Int32.ofNat k)), .val (.int ch), .val (.ref x101), .val (.int sel), .val (.ref y), .val (.int (Int32.ofNat n)), .val (.int (0 : Int32)), .val (.int (KT.getD k 0)), .val (.int (0 : Int32))]) rfl) ?_
              show Run _ _ _ _ _ _ _ _ _ _ _ _ _ T141 (mkF m 779 #[.val (.int mk), .val (.int x1), .val (.int x2), .val (.int x3), .val (.int tl), .val (.int (Int32.ofNat k)), .val (.int ch), .val (.ref x101), .val (.int sel), .val (.ref y), .val (.int (Int32.ofNat n)), .val (.int (0 : Int32)), .val (.int (KT.getD k 0)), .val (.int (0 : Int32))] [])
              exact J779 _ _ _ _ _ _ (One.val rfl) (X141.forget) SY1 (fun _ => okV hk18 rest dk rc ((if_neg (fun z => z.elim e1 (fun y => y.1.2 l2))).symm))
          ·
            refine Run.via (fun _ => XS.icmpNo X141.at X141.ex rfl (X141.de at_739) rfl (flt l2).2.2.1) ?_
            show Run _ _ _ _ _ _ _ _ _ _ _ _ _ T141 (mkF m 742 #[.val (.int mk), .val (.int x1), .val (.int x2), .val (.int x3), .val (.int tl), .val (.int (Int32.ofNat k)), .val (.int ch), .val (.ref x101), .val (.int sel), .val (.ref y), .val (.int (Int32.ofNat n)), .val (.int (1 : Int32)), .val (.int (KT.getD k 0)), .unset] [])
            refine Run.via (fun _ => XS.iconst X141.at X141.ex rfl (X141.de at_742)) ?_
            show Run _ _ _ _ _ _ _ _ _ _ _ _ _ T141 (mkF m 743 #[.val (.int mk), .val (.int x1), .val (.int x2), .val (.int x3), .val (.int tl), .val (.int (Int32.ofNat k)), .val (.int ch), .val (.ref x101), .val (.int sel), .val (.ref y), .val (.int (Int32.ofNat n)), .val (.int (1 : Int32)), .val (.int (KT.getD k 0)), .unset] [(.int (1 : Int32))])
            refine Run.via (fun _ => XS.goto X141.at X141.ex rfl (pc0 := 743) (pc' := 747) rfl (X141.de at_743) (by decide) (by decide)) ?_
            show Run _ _ _ _ _ _ _ _ _ _ _ _ _ T141 (mkF m 747 #[.val (.int mk), .val (.int x1), .val (.int x2), .val (.int x3), .val (.int tl), .val (.int (Int32.ofNat k)), .val (.int ch), .val (.ref x101), .val (.int sel), .val (.ref y), .val (.int (Int32.ofNat n)), .val (.int (1 : Int32)), .val (.int (KT.getD k 0)), .unset] [(.int (1 : Int32))])
            refine Run.via (fun _ => XS.istore X141.at X141.ex rfl (X141.de at_747) rfl (l' := #[.val (.int mk), .val (.int x1), .val (.int x2), .val (.int x3), .val (.int tl), .val (.int (Int32.ofNat k)), .val (.int ch), .val (.ref x101), .val (.int sel), .val (.ref y), .val (.int (Int32.ofNat n)), .val (.int (1 : Int32)), .val (.int (KT.getD k 0)), .val (.int (1 : Int32))]) rfl) ?_
            show Run _ _ _ _ _ _ _ _ _ _ _ _ _ T141 (mkF m 749 #[.val (.int mk), .val (.int x1), .val (.int x2), .val (.int x3), .val (.int tl), .val (.int (Int32.ofNat k)), .val (.int ch), .val (.ref x101), .val (.int sel), .val (.ref y), .val (.int (Int32.ofNat n)), .val (.int (1 : Int32)), .val (.int (KT.getD k 0)), .val (.int (1 : Int32))] [])
            refine Run.via (fun _ => XS.iload X141.at X141.ex rfl (X141.de at_749) rfl) ?_
            show Run _ _ _ _ _ _ _ _ _ _ _ _ _ T141 (mkF m 751 #[.val (.int mk), .val (.int x1), .val (.int x2), .val (.int x3), .val (.int tl), .val (.int (Int32.ofNat k)), .val (.int ch), .val (.ref x101), .val (.int sel), .val (.ref y), .val (.int (Int32.ofNat n)), .val (.int (1 : Int32)), .val (.int (KT.getD k 0)), .val (.int (1 : Int32))] [(.int ch)])
            refine Run.via (fun _ => XS.iload X141.at X141.ex rfl (X141.de at_751) rfl) ?_
            show Run _ _ _ _ _ _ _ _ _ _ _ _ _ T141 (mkF m 753 #[.val (.int mk), .val (.int x1), .val (.int x2), .val (.int x3), .val (.int tl), .val (.int (Int32.ofNat k)), .val (.int ch), .val (.ref x101), .val (.int sel), .val (.ref y), .val (.int (Int32.ofNat n)), .val (.int (1 : Int32)), .val (.int (KT.getD k 0)), .val (.int (1 : Int32))] [(.int (KT.getD k 0)), (.int ch)])
            by_cases e1 : ch = (KT.getD k 0)
            ·
              refine Run.via (fun _ => XS.icmpYes X141.at X141.ex rfl (pc0 := 753) (pc' := 772) rfl (X141.de at_753) rfl (teq e1).1 (by decide) (by decide)) ?_
              show Run _ _ _ _ _ _ _ _ _ _ _ _ _ T141 (mkF m 772 #[.val (.int mk), .val (.int x1), .val (.int x2), .val (.int x3), .val (.int tl), .val (.int (Int32.ofNat k)), .val (.int ch), .val (.ref x101), .val (.int sel), .val (.ref y), .val (.int (Int32.ofNat n)), .val (.int (1 : Int32)), .val (.int (KT.getD k 0)), .val (.int (1 : Int32))] [])
              refine Run.via (fun _ => XS.iconst X141.at X141.ex rfl (X141.de at_772)) ?_
              show Run _ _ _ _ _ _ _ _ _ _ _ _ _ T141 (mkF m 773 #[.val (.int mk), .val (.int x1), .val (.int x2), .val (.int x3), .val (.int tl), .val (.int (Int32.ofNat k)), .val (.int ch), .val (.ref x101), .val (.int sel), .val (.ref y), .val (.int (Int32.ofNat n)), .val (.int (1 : Int32)), .val (.int (KT.getD k 0)), .val (.int (1 : Int32))] [(.int (1 : Int32))])
              refine Run.via (fun _ => XS.goto X141.at X141.ex rfl (pc0 := 773) (pc' := 777) rfl (X141.de at_773) (by decide) (by decide)) ?_
              show Run _ _ _ _ _ _ _ _ _ _ _ _ _ T141 (mkF m 777 #[.val (.int mk), .val (.int x1), .val (.int x2), .val (.int x3), .val (.int tl), .val (.int (Int32.ofNat k)), .val (.int ch), .val (.ref x101), .val (.int sel), .val (.ref y), .val (.int (Int32.ofNat n)), .val (.int (1 : Int32)), .val (.int (KT.getD k 0)), .val (.int (1 : Int32))] [(.int (1 : Int32))])
              refine Run.via (fun _ => XS.istore X141.at X141.ex rfl (X141.de at_777) rfl (l' := #[.val (.int mk), .val (.int x1), .val (.int x2), .val (.int x3), .val (.int tl), .val (.int (Int32.ofNat k)), .val (.int ch), .val (.ref x101), .val (.int sel), .val (.ref y), .val (.int (Int32.ofNat n)), .val (.int (1 : Int32)), .val (.int (KT.getD k 0)), .val (.int (1 : Int32))]) rfl) ?_
              show Run _ _ _ _ _ _ _ _ _ _ _ _ _ T141 (mkF m 779 #[.val (.int mk), .val (.int x1), .val (.int x2), .val (.int x3), .val (.int tl), .val (.int (Int32.ofNat k)), .val (.int ch), .val (.ref x101), .val (.int sel), .val (.ref y), .val (.int (Int32.ofNat n)), .val (.int (1 : Int32)), .val (.int (KT.getD k 0)), .val (.int (1 : Int32))] [])
              exact J779 _ _ _ _ _ _ (One.val rfl) (X141.forget) SY1 (fun _ => okV hk18 rest dk rc ((if_pos (Or.inl e1)).symm))
            ·
              refine Run.via (fun _ => XS.icmpNo X141.at X141.ex rfl (X141.de at_753) rfl (feq e1).1) ?_
              show Run _ _ _ _ _ _ _ _ _ _ _ _ _ T141 (mkF m 756 #[.val (.int mk), .val (.int x1), .val (.int x2), .val (.int x3), .val (.int tl), .val (.int (Int32.ofNat k)), .val (.int ch), .val (.ref x101), .val (.int sel), .val (.ref y), .val (.int (Int32.ofNat n)), .val (.int (1 : Int32)), .val (.int (KT.getD k 0)), .val (.int (1 : Int32))] [])
              refine Run.via (fun _ => XS.iload X141.at X141.ex rfl (X141.de at_756) rfl) ?_
              show Run _ _ _ _ _ _ _ _ _ _ _ _ _ T141 (mkF m 758 #[.val (.int mk), .val (.int x1), .val (.int x2), .val (.int x3), .val (.int tl), .val (.int (Int32.ofNat k)), .val (.int ch), .val (.ref x101), .val (.int sel), .val (.ref y), .val (.int (Int32.ofNat n)), .val (.int (1 : Int32)), .val (.int (KT.getD k 0)), .val (.int (1 : Int32))] [(.int (1 : Int32))])
              refine Run.via (fun _ => XS.ifNo X141.at X141.ex rfl (X141.de at_758) rfl ((if0 _ _).trans (feq (by decide : ¬ ((1 : Int32) = (0 : Int32)))).1)) ?_
              show Run _ _ _ _ _ _ _ _ _ _ _ _ _ T141 (mkF m 761 #[.val (.int mk), .val (.int x1), .val (.int x2), .val (.int x3), .val (.int tl), .val (.int (Int32.ofNat k)), .val (.int ch), .val (.ref x101), .val (.int sel), .val (.ref y), .val (.int (Int32.ofNat n)), .val (.int (1 : Int32)), .val (.int (KT.getD k 0)), .val (.int (1 : Int32))] [])
              refine Run.via (fun _ => XS.iload X141.at X141.ex rfl (X141.de at_761) rfl) ?_
              show Run _ _ _ _ _ _ _ _ _ _ _ _ _ T141 (mkF m 763 #[.val (.int mk), .val (.int x1), .val (.int x2), .val (.int x3), .val (.int tl), .val (.int (Int32.ofNat k)), .val (.int ch), .val (.ref x101), .val (.int sel), .val (.ref y), .val (.int (Int32.ofNat n)), .val (.int (1 : Int32)), .val (.int (KT.getD k 0)), .val (.int (1 : Int32))] [(.int ch)])
              refine Run.via (fun _ => XS.iload X141.at X141.ex rfl (X141.de at_763) rfl) ?_
              show Run _ _ _ _ _ _ _ _ _ _ _ _ _ T141 (mkF m 765 #[.val (.int mk), .val (.int x1), .val (.int x2), .val (.int x3), .val (.int tl), .val (.int (Int32.ofNat k)), .val (.int ch), .val (.ref x101), .val (.int sel), .val (.ref y), .val (.int (Int32.ofNat n)), .val (.int (1 : Int32)), .val (.int (KT.getD k 0)), .val (.int (1 : Int32))] [(.int (KT.getD k 0)), (.int ch)])
              refine Run.via (fun _ => XS.bipush X141.at X141.ex rfl (X141.de at_765)) ?_
              show Run _ _ _ _ _ _ _ _ _ _ _ _ _ T141 (mkF m 767 #[.val (.int mk), .val (.int x1), .val (.int x2), .val (.int x3), .val (.int tl), .val (.int (Int32.ofNat k)), .val (.int ch), .val (.ref x101), .val (.int sel), .val (.ref y), .val (.int (Int32.ofNat n)), .val (.int (1 : Int32)), .val (.int (KT.getD k 0)), .val (.int (1 : Int32))] [(.int (32 : Int32)), (.int (KT.getD k 0)), (.int ch)])
              refine Run.via (fun _ => XS.isub X141.at X141.ex rfl (X141.de at_767) rfl) ?_
              show Run _ _ _ _ _ _ _ _ _ _ _ _ _ T141 (mkF m 768 #[.val (.int mk), .val (.int x1), .val (.int x2), .val (.int x3), .val (.int tl), .val (.int (Int32.ofNat k)), .val (.int ch), .val (.ref x101), .val (.int sel), .val (.ref y), .val (.int (Int32.ofNat n)), .val (.int (1 : Int32)), .val (.int (KT.getD k 0)), .val (.int (1 : Int32))] [(.int ((KT.getD k 0) - (32 : Int32))), (.int ch)])
              refine Run.via (fun _ => XS.i2c X141.at X141.ex rfl (X141.de at_768) rfl) ?_
              show Run _ _ _ _ _ _ _ _ _ _ _ _ _ T141 (mkF m 769 #[.val (.int mk), .val (.int x1), .val (.int x2), .val (.int x3), .val (.int tl), .val (.int (Int32.ofNat k)), .val (.int ch), .val (.ref x101), .val (.int sel), .val (.ref y), .val (.int (Int32.ofNat n)), .val (.int (1 : Int32)), .val (.int (KT.getD k 0)), .val (.int (1 : Int32))] [(.int (((KT.getD k 0) - (32 : Int32)).toUInt32.toUInt16.toUInt32.toInt32)), (.int ch)])
              by_cases e2 : ch = (((KT.getD k 0) - (32 : Int32)).toUInt32.toUInt16.toUInt32.toInt32)
              ·
                refine Run.via (fun _ => XS.icmpNo X141.at X141.ex rfl (X141.de at_769) rfl (teq e2).2) ?_
                show Run _ _ _ _ _ _ _ _ _ _ _ _ _ T141 (mkF m 772 #[.val (.int mk), .val (.int x1), .val (.int x2), .val (.int x3), .val (.int tl), .val (.int (Int32.ofNat k)), .val (.int ch), .val (.ref x101), .val (.int sel), .val (.ref y), .val (.int (Int32.ofNat n)), .val (.int (1 : Int32)), .val (.int (KT.getD k 0)), .val (.int (1 : Int32))] [])
                refine Run.via (fun _ => XS.iconst X141.at X141.ex rfl (X141.de at_772)) ?_
                show Run _ _ _ _ _ _ _ _ _ _ _ _ _ T141 (mkF m 773 #[.val (.int mk), .val (.int x1), .val (.int x2), .val (.int x3), .val (.int tl), .val (.int (Int32.ofNat k)), .val (.int ch), .val (.ref x101), .val (.int sel), .val (.ref y), .val (.int (Int32.ofNat n)), .val (.int (1 : Int32)), .val (.int (KT.getD k 0)), .val (.int (1 : Int32))] [(.int (1 : Int32))])
                refine Run.via (fun _ => XS.goto X141.at X141.ex rfl (pc0 := 773) (pc' := 777) rfl (X141.de at_773) (by decide) (by decide)) ?_
                show Run _ _ _ _ _ _ _ _ _ _ _ _ _ T141 (mkF m 777 #[.val (.int mk), .val (.int x1), .val (.int x2), .val (.int x3), .val (.int tl), .val (.int (Int32.ofNat k)), .val (.int ch), .val (.ref x101), .val (.int sel), .val (.ref y), .val (.int (Int32.ofNat n)), .val (.int (1 : Int32)), .val (.int (KT.getD k 0)), .val (.int (1 : Int32))] [(.int (1 : Int32))])
                refine Run.via (fun _ => XS.istore X141.at X141.ex rfl (X141.de at_777) rfl (l' := #[.val (.int mk), .val (.int x1), .val (.int x2), .val (.int x3), .val (.int tl), .val (.int (Int32.ofNat k)), .val (.int ch), .val (.ref x101), .val (.int sel), .val (.ref y), .val (.int (Int32.ofNat n)), .val (.int (1 : Int32)), .val (.int (KT.getD k 0)), .val (.int (1 : Int32))]) rfl) ?_
                show Run _ _ _ _ _ _ _ _ _ _ _ _ _ T141 (mkF m 779 #[.val (.int mk), .val (.int x1), .val (.int x2), .val (.int x3), .val (.int tl), .val (.int (Int32.ofNat k)), .val (.int ch), .val (.ref x101), .val (.int sel), .val (.ref y), .val (.int (Int32.ofNat n)), .val (.int (1 : Int32)), .val (.int (KT.getD k 0)), .val (.int (1 : Int32))] [])
                exact J779 _ _ _ _ _ _ (One.val rfl) (X141.forget) SY1 (fun _ => okV hk18 rest dk rc ((if_pos (Or.inr ⟨⟨l1, l2⟩, e2⟩)).symm))
              ·
                refine Run.via (fun _ => XS.icmpYes X141.at X141.ex rfl (pc0 := 769) (pc' := 776) rfl (X141.de at_769) rfl (feq e2).2 (by decide) (by decide)) ?_
                show Run _ _ _ _ _ _ _ _ _ _ _ _ _ T141 (mkF m 776 #[.val (.int mk), .val (.int x1), .val (.int x2), .val (.int x3), .val (.int tl), .val (.int (Int32.ofNat k)), .val (.int ch), .val (.ref x101), .val (.int sel), .val (.ref y), .val (.int (Int32.ofNat n)), .val (.int (1 : Int32)), .val (.int (KT.getD k 0)), .val (.int (1 : Int32))] [])
                refine Run.via (fun _ => XS.iconst X141.at X141.ex rfl (X141.de at_776)) ?_
                show Run _ _ _ _ _ _ _ _ _ _ _ _ _ T141 (mkF m 777 #[.val (.int mk), .val (.int x1), .val (.int x2), .val (.int x3), .val (.int tl), .val (.int (Int32.ofNat k)), .val (.int ch), .val (.ref x101), .val (.int sel), .val (.ref y), .val (.int (Int32.ofNat n)), .val (.int (1 : Int32)), .val (.int (KT.getD k 0)), .val (.int (1 : Int32))] [(.int (0 : Int32))])
                refine Run.via (fun _ => XS.istore X141.at X141.ex rfl (X141.de at_777) rfl (l' := #[.val (.int mk), .val (.int x1), .val (.int x2), .val (.int x3), .val (.int tl), .val (.int (Int32.ofNat k)), .val (.int ch), .val (.ref x101), .val (.int sel), .val (.ref y), .val (.int (Int32.ofNat n)), .val (.int (0 : Int32)), .val (.int (KT.getD k 0)), .val (.int (1 : Int32))]) rfl) ?_
                show Run _ _ _ _ _ _ _ _ _ _ _ _ _ T141 (mkF m 779 #[.val (.int mk), .val (.int x1), .val (.int x2), .val (.int x3), .val (.int tl), .val (.int (Int32.ofNat k)), .val (.int ch), .val (.ref x101), .val (.int sel), .val (.ref y), .val (.int (Int32.ofNat n)), .val (.int (0 : Int32)), .val (.int (KT.getD k 0)), .val (.int (1 : Int32))] [])
                exact J779 _ _ _ _ _ _ (One.val rfl) (X141.forget) SY1 (fun _ => okV hk18 rest dk rc ((if_neg (fun z => z.elim e1 (fun y => e2 y.2))).symm))
      ·
        refine Run.via (fun _ => XS.icmpYes Xj.at Xj.ex rfl (pc0 := 718) (pc' := 779) rfl (Xj.de at_718) rfl (flt q0).2.1 (by decide) (by decide)) ?_
        show Run _ _ _ _ _ _ _ _ _ _ _ _ _ Tj (mkF m 779 #[.val (.int mk), .val (.int x1), .val (.int x2), .val (.int x3), .val (.int tl), .val (.int ps), .val (.int ch), .val (.ref x101), .val (.int sel), .val (.ref y), .val (.int (Int32.ofNat n)), .val (.int (1 : Int32)), .unset, .unset] [])
        exact J779 _ _ _ _ _ _ One.u (Xj.forget) SY (fun _ => by rw [if_pos]; exact aeB_iff.mpr fun j hj z => absurd (((hAt j (by omega)).2.1 (fun y => q0 (y ▸ (i32lt (b := 18) (by omega) (by omega)).mpr hj)) hj).symm.trans z) (by decide : ¬ (1 : Int32) = 0))
    refine Run.via (fun _ => XS.istore X137.at X137.ex rfl (X137.de at_331) rfl (l' := #[.val (.int mk), .val (.int x1), .val (.int x2), .val (.int x3), .val (.int tl), .val (.int ps), .val (.int ch), .val (.ref x101), .val (.int sel), .unset, .unset, .unset, .unset, .unset]) rfl) ?_
    show Run _ _ _ _ _ _ _ _ _ _ _ _ _ T137 (mkF m 333 #[.val (.int mk), .val (.int x1), .val (.int x2), .val (.int x3), .val (.int tl), .val (.int ps), .val (.int ch), .val (.ref x101), .val (.int sel), .unset, .unset, .unset, .unset, .unset] [])
    refine Run.via (fun _ => XS.iload X137.at X137.ex rfl (X137.de at_333) rfl) ?_
    show Run _ _ _ _ _ _ _ _ _ _ _ _ _ T137 (mkF m 335 #[.val (.int mk), .val (.int x1), .val (.int x2), .val (.int x3), .val (.int tl), .val (.int ps), .val (.int ch), .val (.ref x101), .val (.int sel), .unset, .unset, .unset, .unset, .unset] [(.int sel)])
    by_cases z0 : sel = (0 : Int32)
    ·
      refine Run.via (fun _ => XS.ifNo X137.at X137.ex rfl (X137.de at_335) rfl ((if0 _ _).trans (teq z0).2)) ?_
      show Run _ _ _ _ _ _ _ _ _ _ _ _ _ T137 (mkF m 338 #[.val (.int mk), .val (.int x1), .val (.int x2), .val (.int x3), .val (.int tl), .val (.int ps), .val (.int ch), .val (.ref x101), .val (.int sel), .unset, .unset, .unset, .unset, .unset] [])
      have uz := X137.kp.1
      have ulz := A137.lt
      have u142 := X137.kp.1
      have ho142 := O.1
      refine Run.new X137 (wd hw 41 rfl) (wd hw 10 rfl) (wd hw 9 rfl) at_338 (Nat.le_of_ble_eq_true rfl) (Nat.le_of_ble_eq_true rfl) ?_
      intro T143 h143 x143 g143 X143 K143 z143 E143 D143
      show Run _ _ _ _ _ _ _ _ _ _ _ _ _ T143 (mkF m 341 #[.val (.int mk), .val (.int x1), .val (.int x2), .val (.int x3), .val (.int tl), .val (.int ps), .val (.int ch), .val (.ref x101), .val (.int sel), .unset, .unset, .unset, .unset, .unset] [(.ref x143)])
      have Q143 := A137.keep K143 nin0
      have G143 : Raw Z h143 x143 := ⟨E143, D143 (Or.inr (wd hw 12 rfl)) (ty := (.array .byte)) (by decide), D143 (Or.inr (wd hw 13 rfl)) (ty := .byte) (by decide)⟩
      have s143 := K143.1
      refine Run.via (fun _ => XS.dup X143.at X143.ex rfl (X143.de at_341) rfl rfl) ?_
      show Run _ _ _ _ _ _ _ _ _ _ _ _ _ T143 (mkF m 342 #[.val (.int mk), .val (.int x1), .val (.int x2), .val (.int x3), .val (.int tl), .val (.int ps), .val (.int ch), .val (.ref x101), .val (.int sel), .unset, .unset, .unset, .unset, .unset] [(.ref x143), (.ref x143)])
      refine Run.via (fun _ => XS.bipush X143.at X143.ex rfl (X143.de at_342)) ?_
      show Run _ _ _ _ _ _ _ _ _ _ _ _ _ T143 (mkF m 344 #[.val (.int mk), .val (.int x1), .val (.int x2), .val (.int x3), .val (.int tl), .val (.int ps), .val (.int ch), .val (.ref x101), .val (.int sel), .unset, .unset, .unset, .unset, .unset] [(.int (17 : Int32)), (.ref x143), (.ref x143)])
      refine Run.newarr X143 (aty := .char) (n := 17) (cap := 17) (wd hw 0 rfl) rfl at_344 rfl (Nat.le_refl _) (by decide) (Nat.le_of_ble_eq_true rfl) (Nat.le_of_ble_eq_true rfl) ?_
      intro T144 h144 x144 g144 X144 K144 z144 A144
      have A144 : Arc .char Z h144 x144 [(0 : Int32), (0 : Int32), (0 : Int32), (0 : Int32), (0 : Int32), (0 : Int32), (0 : Int32), (0 : Int32), (0 : Int32), (0 : Int32), (0 : Int32), (0 : Int32), (0 : Int32), (0 : Int32), (0 : Int32), (0 : Int32), (0 : Int32)] := A144
      show Run _ _ _ _ _ _ _ _ _ _ _ _ _ T144 (mkF m 346 #[.val (.int mk), .val (.int x1), .val (.int x2), .val (.int x3), .val (.int tl), .val (.int ps), .val (.int ch), .val (.ref x101), .val (.int sel), .unset, .unset, .unset, .unset, .unset] [(.ref x144), (.ref x143), (.ref x143)])
      have s144 := K144.1
      have G144 := G143.keep K144 nin0
      have Q144 := Q143.keep K144 nin0
      refine Run.via (fun _ => XS.dup X144.at X144.ex rfl (X144.de at_346) rfl rfl) ?_
      show Run _ _ _ _ _ _ _ _ _ _ _ _ _ T144 (mkF m 347 #[.val (.int mk), .val (.int x1), .val (.int x2), .val (.int x3), .val (.int tl), .val (.int ps), .val (.int ch), .val (.ref x101), .val (.int sel), .unset, .unset, .unset, .unset, .unset] [(.ref x144), (.ref x144), (.ref x143), (.ref x143)])
      refine Run.via (fun _ => XS.iconst X144.at X144.ex rfl (X144.de at_347)) ?_
      show Run _ _ _ _ _ _ _ _ _ _ _ _ _ T144 (mkF m 348 #[.val (.int mk), .val (.int x1), .val (.int x2), .val (.int x3), .val (.int tl), .val (.int ps), .val (.int ch), .val (.ref x101), .val (.int sel), .unset, .unset, .unset, .unset, .unset] [(.int (0 : Int32)), (.ref x144), (.ref x144), (.ref x143), (.ref x143)])
      refine Run.via (fun _ => XS.aload X144.at X144.ex rfl (X144.de at_348) rfl rfl) ?_
      show Run _ _ _ _ _ _ _ _ _ _ _ _ _ T144 (mkF m 350 #[.val (.int mk), .val (.int x1), .val (.int x2), .val (.int x3), .val (.int tl), .val (.int ps), .val (.int ch), .val (.ref x101), .val (.int sel), .unset, .unset, .unset, .unset, .unset] [(.ref x101), (.int (0 : Int32)), (.ref x144), (.ref x144), (.ref x143), (.ref x143)])
      refine Run.via (fun _ => XS.iconst X144.at X144.ex rfl (X144.de at_350)) ?_
      show Run _ _ _ _ _ _ _ _ _ _ _ _ _ T144 (mkF m 351 #[.val (.int mk), .val (.int x1), .val (.int x2), .val (.int x3), .val (.int tl), .val (.int ps), .val (.int ch), .val (.ref x101), .val (.int sel), .unset, .unset, .unset, .unset, .unset] [(.int (0 : Int32)), (.ref x101), (.int (0 : Int32)), (.ref x144), (.ref x144), (.ref x143), (.ref x143)])
      refine Run.caload X144 (i := 0) Q144 rfl (Nat.le_of_ble_eq_true rfl) at_351 ?_
      show Run _ _ _ _ _ _ _ _ _ _ _ _ _ T144 (mkF m 352 #[.val (.int mk), .val (.int x1), .val (.int x2), .val (.int x3), .val (.int tl), .val (.int ps), .val (.int ch), .val (.ref x101), .val (.int sel), .unset, .unset, .unset, .unset, .unset] [(.int d0), (.int (0 : Int32)), (.ref x144), (.ref x144), (.ref x143), (.ref x143)])
      refine Run.castore X144 (i := 0) (v' := d0) A144 rfl (Nat.le_of_ble_eq_true rfl) (nar_lat t0.2.2) (Or.inr (by omega)) (by omega) at_352 ?_
      intro T145 h145 L145 X145 K145 z145 A145
      have A145 : Arc .char Z h145 x144 [d0, (0 : Int32), (0 : Int32), (0 : Int32), (0 : Int32), (0 : Int32), (0 : Int32), (0 : Int32), (0 : Int32), (0 : Int32), (0 : Int32), (0 : Int32), (0 : Int32), (0 : Int32), (0 : Int32), (0 : Int32), (0 : Int32)] := A145
      show Run _ _ _ _ _ _ _ _ _ _ _ _ _ T145 (mkF m 353 #[.val (.int mk), .val (.int x1), .val (.int x2), .val (.int x3), .val (.int tl), .val (.int ps), .val (.int ch), .val (.ref x101), .val (.int sel), .unset, .unset, .unset, .unset, .unset] [(.ref x144), (.ref x143), (.ref x143)])
      have G145 := G144.keep K145 (ninS (neA (by omega)) nin0)
      have Q145 := Q144.keep K145 (ninS (neA (by omega)) nin0)
      refine Run.via (fun _ => XS.dup X145.at X145.ex rfl (X145.de at_353) rfl rfl) ?_
      show Run _ _ _ _ _ _ _ _ _ _ _ _ _ T145 (mkF m 354 #[.val (.int mk), .val (.int x1), .val (.int x2), .val (.int x3), .val (.int tl), .val (.int ps), .val (.int ch), .val (.ref x101), .val (.int sel), .unset, .unset, .unset, .unset, .unset] [(.ref x144), (.ref x144), (.ref x143), (.ref x143)])
      refine Run.via (fun _ => XS.iconst X145.at X145.ex rfl (X145.de at_354)) ?_
      show Run _ _ _ _ _ _ _ _ _ _ _ _ _ T145 (mkF m 355 #[.val (.int mk), .val (.int x1), .val (.int x2), .val (.int x3), .val (.int tl), .val (.int ps), .val (.int ch), .val (.ref x101), .val (.int sel), .unset, .unset, .unset, .unset, .unset] [(.int (1 : Int32)), (.ref x144), (.ref x144), (.ref x143), (.ref x143)])
      refine Run.via (fun _ => XS.aload X145.at X145.ex rfl (X145.de at_355) rfl rfl) ?_
      show Run _ _ _ _ _ _ _ _ _ _ _ _ _ T145 (mkF m 357 #[.val (.int mk), .val (.int x1), .val (.int x2), .val (.int x3), .val (.int tl), .val (.int ps), .val (.int ch), .val (.ref x101), .val (.int sel), .unset, .unset, .unset, .unset, .unset] [(.ref x101), (.int (1 : Int32)), (.ref x144), (.ref x144), (.ref x143), (.ref x143)])
      refine Run.via (fun _ => XS.iconst X145.at X145.ex rfl (X145.de at_357)) ?_
      show Run _ _ _ _ _ _ _ _ _ _ _ _ _ T145 (mkF m 358 #[.val (.int mk), .val (.int x1), .val (.int x2), .val (.int x3), .val (.int tl), .val (.int ps), .val (.int ch), .val (.ref x101), .val (.int sel), .unset, .unset, .unset, .unset, .unset] [(.int (1 : Int32)), (.ref x101), (.int (1 : Int32)), (.ref x144), (.ref x144), (.ref x143), (.ref x143)])
      refine Run.caload X145 (i := 1) Q145 rfl (Nat.le_of_ble_eq_true rfl) at_358 ?_
      show Run _ _ _ _ _ _ _ _ _ _ _ _ _ T145 (mkF m 359 #[.val (.int mk), .val (.int x1), .val (.int x2), .val (.int x3), .val (.int tl), .val (.int ps), .val (.int ch), .val (.ref x101), .val (.int sel), .unset, .unset, .unset, .unset, .unset] [(.int d1), (.int (1 : Int32)), (.ref x144), (.ref x144), (.ref x143), (.ref x143)])
      refine Run.castore X145 (i := 1) (v' := d1) A145 rfl (Nat.le_of_ble_eq_true rfl) (nar_lat t1.2.2) (Or.inr (by omega)) (by omega) at_359 ?_
      intro T146 h146 L146 X146 K146 z146 A146
      have A146 : Arc .char Z h146 x144 [d0, d1, (0 : Int32), (0 : Int32), (0 : Int32), (0 : Int32), (0 : Int32), (0 : Int32), (0 : Int32), (0 : Int32), (0 : Int32), (0 : Int32), (0 : Int32), (0 : Int32), (0 : Int32), (0 : Int32), (0 : Int32)] := A146
      show Run _ _ _ _ _ _ _ _ _ _ _ _ _ T146 (mkF m 360 #[.val (.int mk), .val (.int x1), .val (.int x2), .val (.int x3), .val (.int tl), .val (.int ps), .val (.int ch), .val (.ref x101), .val (.int sel), .unset, .unset, .unset, .unset, .unset] [(.ref x144), (.ref x143), (.ref x143)])
      have G146 := G145.keep K146 (ninS (neA (by omega)) nin0)
      have Q146 := Q145.keep K146 (ninS (neA (by omega)) nin0)
      refine Run.via (fun _ => XS.dup X146.at X146.ex rfl (X146.de at_360) rfl rfl) ?_
      show Run _ _ _ _ _ _ _ _ _ _ _ _ _ T146 (mkF m 361 #[.val (.int mk), .val (.int x1), .val (.int x2), .val (.int x3), .val (.int tl), .val (.int ps), .val (.int ch), .val (.ref x101), .val (.int sel), .unset, .unset, .unset, .unset, .unset] [(.ref x144), (.ref x144), (.ref x143), (.ref x143)])
      refine Run.via (fun _ => XS.iconst X146.at X146.ex rfl (X146.de at_361)) ?_
      show Run _ _ _ _ _ _ _ _ _ _ _ _ _ T146 (mkF m 362 #[.val (.int mk), .val (.int x1), .val (.int x2), .val (.int x3), .val (.int tl), .val (.int ps), .val (.int ch), .val (.ref x101), .val (.int sel), .unset, .unset, .unset, .unset, .unset] [(.int (2 : Int32)), (.ref x144), (.ref x144), (.ref x143), (.ref x143)])
      refine Run.via (fun _ => XS.aload X146.at X146.ex rfl (X146.de at_362) rfl rfl) ?_
      show Run _ _ _ _ _ _ _ _ _ _ _ _ _ T146 (mkF m 364 #[.val (.int mk), .val (.int x1), .val (.int x2), .val (.int x3), .val (.int tl), .val (.int ps), .val (.int ch), .val (.ref x101), .val (.int sel), .unset, .unset, .unset, .unset, .unset] [(.ref x101), (.int (2 : Int32)), (.ref x144), (.ref x144), (.ref x143), (.ref x143)])
      refine Run.via (fun _ => XS.iconst X146.at X146.ex rfl (X146.de at_364)) ?_
      show Run _ _ _ _ _ _ _ _ _ _ _ _ _ T146 (mkF m 365 #[.val (.int mk), .val (.int x1), .val (.int x2), .val (.int x3), .val (.int tl), .val (.int ps), .val (.int ch), .val (.ref x101), .val (.int sel), .unset, .unset, .unset, .unset, .unset] [(.int (2 : Int32)), (.ref x101), (.int (2 : Int32)), (.ref x144), (.ref x144), (.ref x143), (.ref x143)])
      refine Run.caload X146 (i := 2) Q146 rfl (Nat.le_of_ble_eq_true rfl) at_365 ?_
      show Run _ _ _ _ _ _ _ _ _ _ _ _ _ T146 (mkF m 366 #[.val (.int mk), .val (.int x1), .val (.int x2), .val (.int x3), .val (.int tl), .val (.int ps), .val (.int ch), .val (.ref x101), .val (.int sel), .unset, .unset, .unset, .unset, .unset] [(.int d2), (.int (2 : Int32)), (.ref x144), (.ref x144), (.ref x143), (.ref x143)])
      refine Run.castore X146 (i := 2) (v' := d2) A146 rfl (Nat.le_of_ble_eq_true rfl) (nar_lat t2.2.2) (Or.inr (by omega)) (by omega) at_366 ?_
      intro T147 h147 L147 X147 K147 z147 A147
      have A147 : Arc .char Z h147 x144 [d0, d1, d2, (0 : Int32), (0 : Int32), (0 : Int32), (0 : Int32), (0 : Int32), (0 : Int32), (0 : Int32), (0 : Int32), (0 : Int32), (0 : Int32), (0 : Int32), (0 : Int32), (0 : Int32), (0 : Int32)] := A147
      show Run _ _ _ _ _ _ _ _ _ _ _ _ _ T147 (mkF m 367 #[.val (.int mk), .val (.int x1), .val (.int x2), .val (.int x3), .val (.int tl), .val (.int ps), .val (.int ch), .val (.ref x101), .val (.int sel), .unset, .unset, .unset, .unset, .unset] [(.ref x144), (.ref x143), (.ref x143)])
      have G147 := G146.keep K147 (ninS (neA (by omega)) nin0)
      have Q147 := Q146.keep K147 (ninS (neA (by omega)) nin0)
      refine Run.via (fun _ => XS.dup X147.at X147.ex rfl (X147.de at_367) rfl rfl) ?_
      show Run _ _ _ _ _ _ _ _ _ _ _ _ _ T147 (mkF m 368 #[.val (.int mk), .val (.int x1), .val (.int x2), .val (.int x3), .val (.int tl), .val (.int ps), .val (.int ch), .val (.ref x101), .val (.int sel), .unset, .unset, .unset, .unset, .unset] [(.ref x144), (.ref x144), (.ref x143), (.ref x143)])
      refine Run.via (fun _ => XS.iconst X147.at X147.ex rfl (X147.de at_368)) ?_
      show Run _ _ _ _ _ _ _ _ _ _ _ _ _ T147 (mkF m 369 #[.val (.int mk), .val (.int x1), .val (.int x2), .val (.int x3), .val (.int tl), .val (.int ps), .val (.int ch), .val (.ref x101), .val (.int sel), .unset, .unset, .unset, .unset, .unset] [(.int (3 : Int32)), (.ref x144), (.ref x144), (.ref x143), (.ref x143)])
      refine Run.via (fun _ => XS.aload X147.at X147.ex rfl (X147.de at_369) rfl rfl) ?_
      show Run _ _ _ _ _ _ _ _ _ _ _ _ _ T147 (mkF m 371 #[.val (.int mk), .val (.int x1), .val (.int x2), .val (.int x3), .val (.int tl), .val (.int ps), .val (.int ch), .val (.ref x101), .val (.int sel), .unset, .unset, .unset, .unset, .unset] [(.ref x101), (.int (3 : Int32)), (.ref x144), (.ref x144), (.ref x143), (.ref x143)])
      refine Run.via (fun _ => XS.iconst X147.at X147.ex rfl (X147.de at_371)) ?_
      show Run _ _ _ _ _ _ _ _ _ _ _ _ _ T147 (mkF m 372 #[.val (.int mk), .val (.int x1), .val (.int x2), .val (.int x3), .val (.int tl), .val (.int ps), .val (.int ch), .val (.ref x101), .val (.int sel), .unset, .unset, .unset, .unset, .unset] [(.int (3 : Int32)), (.ref x101), (.int (3 : Int32)), (.ref x144), (.ref x144), (.ref x143), (.ref x143)])
      refine Run.caload X147 (i := 3) Q147 rfl (Nat.le_of_ble_eq_true rfl) at_372 ?_
      show Run _ _ _ _ _ _ _ _ _ _ _ _ _ T147 (mkF m 373 #[.val (.int mk), .val (.int x1), .val (.int x2), .val (.int x3), .val (.int tl), .val (.int ps), .val (.int ch), .val (.ref x101), .val (.int sel), .unset, .unset, .unset, .unset, .unset] [(.int d3), (.int (3 : Int32)), (.ref x144), (.ref x144), (.ref x143), (.ref x143)])
      refine Run.castore X147 (i := 3) (v' := d3) A147 rfl (Nat.le_of_ble_eq_true rfl) (nar_lat t3.2.2) (Or.inr (by omega)) (by omega) at_373 ?_
      intro T148 h148 L148 X148 K148 z148 A148
      have A148 : Arc .char Z h148 x144 [d0, d1, d2, d3, (0 : Int32), (0 : Int32), (0 : Int32), (0 : Int32), (0 : Int32), (0 : Int32), (0 : Int32), (0 : Int32), (0 : Int32), (0 : Int32), (0 : Int32), (0 : Int32), (0 : Int32)] := A148
      show Run _ _ _ _ _ _ _ _ _ _ _ _ _ T148 (mkF m 374 #[.val (.int mk), .val (.int x1), .val (.int x2), .val (.int x3), .val (.int tl), .val (.int ps), .val (.int ch), .val (.ref x101), .val (.int sel), .unset, .unset, .unset, .unset, .unset] [(.ref x144), (.ref x143), (.ref x143)])
      have G148 := G147.keep K148 (ninS (neA (by omega)) nin0)
      have Q148 := Q147.keep K148 (ninS (neA (by omega)) nin0)
      refine Run.via (fun _ => XS.dup X148.at X148.ex rfl (X148.de at_374) rfl rfl) ?_
      show Run _ _ _ _ _ _ _ _ _ _ _ _ _ T148 (mkF m 375 #[.val (.int mk), .val (.int x1), .val (.int x2), .val (.int x3), .val (.int tl), .val (.int ps), .val (.int ch), .val (.ref x101), .val (.int sel), .unset, .unset, .unset, .unset, .unset] [(.ref x144), (.ref x144), (.ref x143), (.ref x143)])
      refine Run.via (fun _ => XS.iconst X148.at X148.ex rfl (X148.de at_375)) ?_
      show Run _ _ _ _ _ _ _ _ _ _ _ _ _ T148 (mkF m 376 #[.val (.int mk), .val (.int x1), .val (.int x2), .val (.int x3), .val (.int tl), .val (.int ps), .val (.int ch), .val (.ref x101), .val (.int sel), .unset, .unset, .unset, .unset, .unset] [(.int (4 : Int32)), (.ref x144), (.ref x144), (.ref x143), (.ref x143)])
      refine Run.via (fun _ => XS.aload X148.at X148.ex rfl (X148.de at_376) rfl rfl) ?_
      show Run _ _ _ _ _ _ _ _ _ _ _ _ _ T148 (mkF m 378 #[.val (.int mk), .val (.int x1), .val (.int x2), .val (.int x3), .val (.int tl), .val (.int ps), .val (.int ch), .val (.ref x101), .val (.int sel), .unset, .unset, .unset, .unset, .unset] [(.ref x101), (.int (4 : Int32)), (.ref x144), (.ref x144), (.ref x143), (.ref x143)])
      refine Run.via (fun _ => XS.iconst X148.at X148.ex rfl (X148.de at_378)) ?_
      show Run _ _ _ _ _ _ _ _ _ _ _ _ _ T148 (mkF m 379 #[.val (.int mk), .val (.int x1), .val (.int x2), .val (.int x3), .val (.int tl), .val (.int ps), .val (.int ch), .val (.ref x101), .val (.int sel), .unset, .unset, .unset, .unset, .unset] [(.int (4 : Int32)), (.ref x101), (.int (4 : Int32)), (.ref x144), (.ref x144), (.ref x143), (.ref x143)])
      refine Run.caload X148 (i := 4) Q148 rfl (Nat.le_of_ble_eq_true rfl) at_379 ?_
      show Run _ _ _ _ _ _ _ _ _ _ _ _ _ T148 (mkF m 380 #[.val (.int mk), .val (.int x1), .val (.int x2), .val (.int x3), .val (.int tl), .val (.int ps), .val (.int ch), .val (.ref x101), .val (.int sel), .unset, .unset, .unset, .unset, .unset] [(.int d4), (.int (4 : Int32)), (.ref x144), (.ref x144), (.ref x143), (.ref x143)])
      refine Run.castore X148 (i := 4) (v' := d4) A148 rfl (Nat.le_of_ble_eq_true rfl) (nar_lat t4.2.2) (Or.inr (by omega)) (by omega) at_380 ?_
      intro T149 h149 L149 X149 K149 z149 A149
      have A149 : Arc .char Z h149 x144 [d0, d1, d2, d3, d4, (0 : Int32), (0 : Int32), (0 : Int32), (0 : Int32), (0 : Int32), (0 : Int32), (0 : Int32), (0 : Int32), (0 : Int32), (0 : Int32), (0 : Int32), (0 : Int32)] := A149
      show Run _ _ _ _ _ _ _ _ _ _ _ _ _ T149 (mkF m 381 #[.val (.int mk), .val (.int x1), .val (.int x2), .val (.int x3), .val (.int tl), .val (.int ps), .val (.int ch), .val (.ref x101), .val (.int sel), .unset, .unset, .unset, .unset, .unset] [(.ref x144), (.ref x143), (.ref x143)])
      have G149 := G148.keep K149 (ninS (neA (by omega)) nin0)
      have Q149 := Q148.keep K149 (ninS (neA (by omega)) nin0)
      refine Run.via (fun _ => XS.dup X149.at X149.ex rfl (X149.de at_381) rfl rfl) ?_
      show Run _ _ _ _ _ _ _ _ _ _ _ _ _ T149 (mkF m 382 #[.val (.int mk), .val (.int x1), .val (.int x2), .val (.int x3), .val (.int tl), .val (.int ps), .val (.int ch), .val (.ref x101), .val (.int sel), .unset, .unset, .unset, .unset, .unset] [(.ref x144), (.ref x144), (.ref x143), (.ref x143)])
      refine Run.via (fun _ => XS.iconst X149.at X149.ex rfl (X149.de at_382)) ?_
      show Run _ _ _ _ _ _ _ _ _ _ _ _ _ T149 (mkF m 383 #[.val (.int mk), .val (.int x1), .val (.int x2), .val (.int x3), .val (.int tl), .val (.int ps), .val (.int ch), .val (.ref x101), .val (.int sel), .unset, .unset, .unset, .unset, .unset] [(.int (5 : Int32)), (.ref x144), (.ref x144), (.ref x143), (.ref x143)])
      refine Run.via (fun _ => XS.aload X149.at X149.ex rfl (X149.de at_383) rfl rfl) ?_
      show Run _ _ _ _ _ _ _ _ _ _ _ _ _ T149 (mkF m 385 #[.val (.int mk), .val (.int x1), .val (.int x2), .val (.int x3), .val (.int tl), .val (.int ps), .val (.int ch), .val (.ref x101), .val (.int sel), .unset, .unset, .unset, .unset, .unset] [(.ref x101), (.int (5 : Int32)), (.ref x144), (.ref x144), (.ref x143), (.ref x143)])
      refine Run.via (fun _ => XS.iconst X149.at X149.ex rfl (X149.de at_385)) ?_
      show Run _ _ _ _ _ _ _ _ _ _ _ _ _ T149 (mkF m 386 #[.val (.int mk), .val (.int x1), .val (.int x2), .val (.int x3), .val (.int tl), .val (.int ps), .val (.int ch), .val (.ref x101), .val (.int sel), .unset, .unset, .unset, .unset, .unset] [(.int (5 : Int32)), (.ref x101), (.int (5 : Int32)), (.ref x144), (.ref x144), (.ref x143), (.ref x143)])
      refine Run.caload X149 (i := 5) Q149 rfl (Nat.le_of_ble_eq_true rfl) at_386 ?_
      show Run _ _ _ _ _ _ _ _ _ _ _ _ _ T149 (mkF m 387 #[.val (.int mk), .val (.int x1), .val (.int x2), .val (.int x3), .val (.int tl), .val (.int ps), .val (.int ch), .val (.ref x101), .val (.int sel), .unset, .unset, .unset, .unset, .unset] [(.int d5), (.int (5 : Int32)), (.ref x144), (.ref x144), (.ref x143), (.ref x143)])
      refine Run.castore X149 (i := 5) (v' := d5) A149 rfl (Nat.le_of_ble_eq_true rfl) (nar_lat t5.2.2) (Or.inr (by omega)) (by omega) at_387 ?_
      intro T150 h150 L150 X150 K150 z150 A150
      have A150 : Arc .char Z h150 x144 [d0, d1, d2, d3, d4, d5, (0 : Int32), (0 : Int32), (0 : Int32), (0 : Int32), (0 : Int32), (0 : Int32), (0 : Int32), (0 : Int32), (0 : Int32), (0 : Int32), (0 : Int32)] := A150
      show Run _ _ _ _ _ _ _ _ _ _ _ _ _ T150 (mkF m 388 #[.val (.int mk), .val (.int x1), .val (.int x2), .val (.int x3), .val (.int tl), .val (.int ps), .val (.int ch), .val (.ref x101), .val (.int sel), .unset, .unset, .unset, .unset, .unset] [(.ref x144), (.ref x143), (.ref x143)])
      have G150 := G149.keep K150 (ninS (neA (by omega)) nin0)
      have Q150 := Q149.keep K150 (ninS (neA (by omega)) nin0)
      refine Run.via (fun _ => XS.dup X150.at X150.ex rfl (X150.de at_388) rfl rfl) ?_
      show Run _ _ _ _ _ _ _ _ _ _ _ _ _ T150 (mkF m 389 #[.val (.int mk), .val (.int x1), .val (.int x2), .val (.int x3), .val (.int tl), .val (.int ps), .val (.int ch), .val (.ref x101), .val (.int sel), .unset, .unset, .unset, .unset, .unset] [(.ref x144), (.ref x144), (.ref x143), (.ref x143)])
      refine Run.via (fun _ => XS.bipush X150.at X150.ex rfl (X150.de at_389)) ?_
      show Run _ _ _ _ _ _ _ _ _ _ _ _ _ T150 (mkF m 391 #[.val (.int mk), .val (.int x1), .val (.int x2), .val (.int x3), .val (.int tl), .val (.int ps), .val (.int ch), .val (.ref x101), .val (.int sel), .unset, .unset, .unset, .unset, .unset] [(.int (6 : Int32)), (.ref x144), (.ref x144), (.ref x143), (.ref x143)])
      refine Run.via (fun _ => XS.aload X150.at X150.ex rfl (X150.de at_391) rfl rfl) ?_
      show Run _ _ _ _ _ _ _ _ _ _ _ _ _ T150 (mkF m 393 #[.val (.int mk), .val (.int x1), .val (.int x2), .val (.int x3), .val (.int tl), .val (.int ps), .val (.int ch), .val (.ref x101), .val (.int sel), .unset, .unset, .unset, .unset, .unset] [(.ref x101), (.int (6 : Int32)), (.ref x144), (.ref x144), (.ref x143), (.ref x143)])
      refine Run.via (fun _ => XS.bipush X150.at X150.ex rfl (X150.de at_393)) ?_
      show Run _ _ _ _ _ _ _ _ _ _ _ _ _ T150 (mkF m 395 #[.val (.int mk), .val (.int x1), .val (.int x2), .val (.int x3), .val (.int tl), .val (.int ps), .val (.int ch), .val (.ref x101), .val (.int sel), .unset, .unset, .unset, .unset, .unset] [(.int (6 : Int32)), (.ref x101), (.int (6 : Int32)), (.ref x144), (.ref x144), (.ref x143), (.ref x143)])
      refine Run.caload X150 (i := 6) Q150 rfl (Nat.le_of_ble_eq_true rfl) at_395 ?_
      show Run _ _ _ _ _ _ _ _ _ _ _ _ _ T150 (mkF m 396 #[.val (.int mk), .val (.int x1), .val (.int x2), .val (.int x3), .val (.int tl), .val (.int ps), .val (.int ch), .val (.ref x101), .val (.int sel), .unset, .unset, .unset, .unset, .unset] [(.int d6), (.int (6 : Int32)), (.ref x144), (.ref x144), (.ref x143), (.ref x143)])
      refine Run.castore X150 (i := 6) (v' := d6) A150 rfl (Nat.le_of_ble_eq_true rfl) (nar_lat t6.2.2) (Or.inr (by omega)) (by omega) at_396 ?_
      intro T151 h151 L151 X151 K151 z151 A151
      have A151 : Arc .char Z h151 x144 [d0, d1, d2, d3, d4, d5, d6, (0 : Int32), (0 : Int32), (0 : Int32), (0 : Int32), (0 : Int32), (0 : Int32), (0 : Int32), (0 : Int32), (0 : Int32), (0 : Int32)] := A151
      show Run _ _ _ _ _ _ _ _ _ _ _ _ _ T151 (mkF m 397 #[.val (.int mk), .val (.int x1), .val (.int x2), .val (.int x3), .val (.int tl), .val (.int ps), .val (.int ch), .val (.ref x101), .val (.int sel), .unset, .unset, .unset, .unset, .unset] [(.ref x144), (.ref x143), (.ref x143)])
      have G151 := G150.keep K151 (ninS (neA (by omega)) nin0)
      have Q151 := Q150.keep K151 (ninS (neA (by omega)) nin0)
      refine Run.via (fun _ => XS.dup X151.at X151.ex rfl (X151.de at_397) rfl rfl) ?_
      show Run _ _ _ _ _ _ _ _ _ _ _ _ _ T151 (mkF m 398 #[.val (.int mk), .val (.int x1), .val (.int x2), .val (.int x3), .val (.int tl), .val (.int ps), .val (.int ch), .val (.ref x101), .val (.int sel), .unset, .unset, .unset, .unset, .unset] [(.ref x144), (.ref x144), (.ref x143), (.ref x143)])
      refine Run.via (fun _ => XS.bipush X151.at X151.ex rfl (X151.de at_398)) ?_
      show Run _ _ _ _ _ _ _ _ _ _ _ _ _ T151 (mkF m 400 #[.val (.int mk), .val (.int x1), .val (.int x2), .val (.int x3), .val (.int tl), .val (.int ps), .val (.int ch), .val (.ref x101), .val (.int sel), .unset, .unset, .unset, .unset, .unset] [(.int (7 : Int32)), (.ref x144), (.ref x144), (.ref x143), (.ref x143)])
      refine Run.via (fun _ => XS.aload X151.at X151.ex rfl (X151.de at_400) rfl rfl) ?_
      show Run _ _ _ _ _ _ _ _ _ _ _ _ _ T151 (mkF m 402 #[.val (.int mk), .val (.int x1), .val (.int x2), .val (.int x3), .val (.int tl), .val (.int ps), .val (.int ch), .val (.ref x101), .val (.int sel), .unset, .unset, .unset, .unset, .unset] [(.ref x101), (.int (7 : Int32)), (.ref x144), (.ref x144), (.ref x143), (.ref x143)])
      refine Run.via (fun _ => XS.bipush X151.at X151.ex rfl (X151.de at_402)) ?_
      show Run _ _ _ _ _ _ _ _ _ _ _ _ _ T151 (mkF m 404 #[.val (.int mk), .val (.int x1), .val (.int x2), .val (.int x3), .val (.int tl), .val (.int ps), .val (.int ch), .val (.ref x101), .val (.int sel), .unset, .unset, .unset, .unset, .unset] [(.int (7 : Int32)), (.ref x101), (.int (7 : Int32)), (.ref x144), (.ref x144), (.ref x143), (.ref x143)])
      refine Run.caload X151 (i := 7) Q151 rfl (Nat.le_of_ble_eq_true rfl) at_404 ?_
      show Run _ _ _ _ _ _ _ _ _ _ _ _ _ T151 (mkF m 405 #[.val (.int mk), .val (.int x1), .val (.int x2), .val (.int x3), .val (.int tl), .val (.int ps), .val (.int ch), .val (.ref x101), .val (.int sel), .unset, .unset, .unset, .unset, .unset] [(.int d7), (.int (7 : Int32)), (.ref x144), (.ref x144), (.ref x143), (.ref x143)])
      refine Run.castore X151 (i := 7) (v' := d7) A151 rfl (Nat.le_of_ble_eq_true rfl) (nar_lat t7.2.2) (Or.inr (by omega)) (by omega) at_405 ?_
      intro T152 h152 L152 X152 K152 z152 A152
      have A152 : Arc .char Z h152 x144 [d0, d1, d2, d3, d4, d5, d6, d7, (0 : Int32), (0 : Int32), (0 : Int32), (0 : Int32), (0 : Int32), (0 : Int32), (0 : Int32), (0 : Int32), (0 : Int32)] := A152
      show Run _ _ _ _ _ _ _ _ _ _ _ _ _ T152 (mkF m 406 #[.val (.int mk), .val (.int x1), .val (.int x2), .val (.int x3), .val (.int tl), .val (.int ps), .val (.int ch), .val (.ref x101), .val (.int sel), .unset, .unset, .unset, .unset, .unset] [(.ref x144), (.ref x143), (.ref x143)])
      have G152 := G151.keep K152 (ninS (neA (by omega)) nin0)
      have Q152 := Q151.keep K152 (ninS (neA (by omega)) nin0)
      refine Run.via (fun _ => XS.dup X152.at X152.ex rfl (X152.de at_406) rfl rfl) ?_
      show Run _ _ _ _ _ _ _ _ _ _ _ _ _ T152 (mkF m 407 #[.val (.int mk), .val (.int x1), .val (.int x2), .val (.int x3), .val (.int tl), .val (.int ps), .val (.int ch), .val (.ref x101), .val (.int sel), .unset, .unset, .unset, .unset, .unset] [(.ref x144), (.ref x144), (.ref x143), (.ref x143)])
      refine Run.via (fun _ => XS.bipush X152.at X152.ex rfl (X152.de at_407)) ?_
      show Run _ _ _ _ _ _ _ _ _ _ _ _ _ T152 (mkF m 409 #[.val (.int mk), .val (.int x1), .val (.int x2), .val (.int x3), .val (.int tl), .val (.int ps), .val (.int ch), .val (.ref x101), .val (.int sel), .unset, .unset, .unset, .unset, .unset] [(.int (8 : Int32)), (.ref x144), (.ref x144), (.ref x143), (.ref x143)])
      refine Run.via (fun _ => XS.aload X152.at X152.ex rfl (X152.de at_409) rfl rfl) ?_
      show Run _ _ _ _ _ _ _ _ _ _ _ _ _ T152 (mkF m 411 #[.val (.int mk), .val (.int x1), .val (.int x2), .val (.int x3), .val (.int tl), .val (.int ps), .val (.int ch), .val (.ref x101), .val (.int sel), .unset, .unset, .unset, .unset, .unset] [(.ref x101), (.int (8 : Int32)), (.ref x144), (.ref x144), (.ref x143), (.ref x143)])
      refine Run.via (fun _ => XS.bipush X152.at X152.ex rfl (X152.de at_411)) ?_
      show Run _ _ _ _ _ _ _ _ _ _ _ _ _ T152 (mkF m 413 #[.val (.int mk), .val (.int x1), .val (.int x2), .val (.int x3), .val (.int tl), .val (.int ps), .val (.int ch), .val (.ref x101), .val (.int sel), .unset, .unset, .unset, .unset, .unset] [(.int (8 : Int32)), (.ref x101), (.int (8 : Int32)), (.ref x144), (.ref x144), (.ref x143), (.ref x143)])
      refine Run.caload X152 (i := 8) Q152 rfl (Nat.le_of_ble_eq_true rfl) at_413 ?_
      show Run _ _ _ _ _ _ _ _ _ _ _ _ _ T152 (mkF m 414 #[.val (.int mk), .val (.int x1), .val (.int x2), .val (.int x3), .val (.int tl), .val (.int ps), .val (.int ch), .val (.ref x101), .val (.int sel), .unset, .unset, .unset, .unset, .unset] [(.int d8), (.int (8 : Int32)), (.ref x144), (.ref x144), (.ref x143), (.ref x143)])
      refine Run.castore X152 (i := 8) (v' := d8) A152 rfl (Nat.le_of_ble_eq_true rfl) (nar_lat t8.2.2) (Or.inr (by omega)) (by omega) at_414 ?_
      intro T153 h153 L153 X153 K153 z153 A153
      have A153 : Arc .char Z h153 x144 [d0, d1, d2, d3, d4, d5, d6, d7, d8, (0 : Int32), (0 : Int32), (0 : Int32), (0 : Int32), (0 : Int32), (0 : Int32), (0 : Int32), (0 : Int32)] := A153
      show Run _ _ _ _ _ _ _ _ _ _ _ _ _ T153 (mkF m 415 #[.val (.int mk), .val (.int x1), .val (.int x2), .val (.int x3), .val (.int tl), .val (.int ps), .val (.int ch), .val (.ref x101), .val (.int sel), .unset, .unset, .unset, .unset, .unset] [(.ref x144), (.ref x143), (.ref x143)])
      have G153 := G152.keep K153 (ninS (neA (by omega)) nin0)
      have Q153 := Q152.keep K153 (ninS (neA (by omega)) nin0)
      refine Run.via (fun _ => XS.dup X153.at X153.ex rfl (X153.de at_415) rfl rfl) ?_
      show Run _ _ _ _ _ _ _ _ _ _ _ _ _ T153 (mkF m 416 #[.val (.int mk), .val (.int x1), .val (.int x2), .val (.int x3), .val (.int tl), .val (.int ps), .val (.int ch), .val (.ref x101), .val (.int sel), .unset, .unset, .unset, .unset, .unset] [(.ref x144), (.ref x144), (.ref x143), (.ref x143)])
      refine Run.via (fun _ => XS.bipush X153.at X153.ex rfl (X153.de at_416)) ?_
      show Run _ _ _ _ _ _ _ _ _ _ _ _ _ T153 (mkF m 418 #[.val (.int mk), .val (.int x1), .val (.int x2), .val (.int x3), .val (.int tl), .val (.int ps), .val (.int ch), .val (.ref x101), .val (.int sel), .unset, .unset, .unset, .unset, .unset] [(.int (9 : Int32)), (.ref x144), (.ref x144), (.ref x143), (.ref x143)])
      refine Run.via (fun _ => XS.aload X153.at X153.ex rfl (X153.de at_418) rfl rfl) ?_
      show Run _ _ _ _ _ _ _ _ _ _ _ _ _ T153 (mkF m 420 #[.val (.int mk), .val (.int x1), .val (.int x2), .val (.int x3), .val (.int tl), .val (.int ps), .val (.int ch), .val (.ref x101), .val (.int sel), .unset, .unset, .unset, .unset, .unset] [(.ref x101), (.int (9 : Int32)), (.ref x144), (.ref x144), (.ref x143), (.ref x143)])
      refine Run.via (fun _ => XS.bipush X153.at X153.ex rfl (X153.de at_420)) ?_
      show Run _ _ _ _ _ _ _ _ _ _ _ _ _ T153 (mkF m 422 #[.val (.int mk), .val (.int x1), .val (.int x2), .val (.int x3), .val (.int tl), .val (.int ps), .val (.int ch), .val (.ref x101), .val (.int sel), .unset, .unset, .unset, .unset, .unset] [(.int (9 : Int32)), (.ref x101), (.int (9 : Int32)), (.ref x144), (.ref x144), (.ref x143), (.ref x143)])
      refine Run.caload X153 (i := 9) Q153 rfl (Nat.le_of_ble_eq_true rfl) at_422 ?_
      show Run _ _ _ _ _ _ _ _ _ _ _ _ _ T153 (mkF m 423 #[.val (.int mk), .val (.int x1), .val (.int x2), .val (.int x3), .val (.int tl), .val (.int ps), .val (.int ch), .val (.ref x101), .val (.int sel), .unset, .unset, .unset, .unset, .unset] [(.int d9), (.int (9 : Int32)), (.ref x144), (.ref x144), (.ref x143), (.ref x143)])
      refine Run.castore X153 (i := 9) (v' := d9) A153 rfl (Nat.le_of_ble_eq_true rfl) (nar_lat t9.2.2) (Or.inr (by omega)) (by omega) at_423 ?_
      intro T154 h154 L154 X154 K154 z154 A154
      have A154 : Arc .char Z h154 x144 [d0, d1, d2, d3, d4, d5, d6, d7, d8, d9, (0 : Int32), (0 : Int32), (0 : Int32), (0 : Int32), (0 : Int32), (0 : Int32), (0 : Int32)] := A154
      show Run _ _ _ _ _ _ _ _ _ _ _ _ _ T154 (mkF m 424 #[.val (.int mk), .val (.int x1), .val (.int x2), .val (.int x3), .val (.int tl), .val (.int ps), .val (.int ch), .val (.ref x101), .val (.int sel), .unset, .unset, .unset, .unset, .unset] [(.ref x144), (.ref x143), (.ref x143)])
      have G154 := G153.keep K154 (ninS (neA (by omega)) nin0)
      have Q154 := Q153.keep K154 (ninS (neA (by omega)) nin0)
      refine Run.via (fun _ => XS.dup X154.at X154.ex rfl (X154.de at_424) rfl rfl) ?_
      show Run _ _ _ _ _ _ _ _ _ _ _ _ _ T154 (mkF m 425 #[.val (.int mk), .val (.int x1), .val (.int x2), .val (.int x3), .val (.int tl), .val (.int ps), .val (.int ch), .val (.ref x101), .val (.int sel), .unset, .unset, .unset, .unset, .unset] [(.ref x144), (.ref x144), (.ref x143), (.ref x143)])
      refine Run.via (fun _ => XS.bipush X154.at X154.ex rfl (X154.de at_425)) ?_
      show Run _ _ _ _ _ _ _ _ _ _ _ _ _ T154 (mkF m 427 #[.val (.int mk), .val (.int x1), .val (.int x2), .val (.int x3), .val (.int tl), .val (.int ps), .val (.int ch), .val (.ref x101), .val (.int sel), .unset, .unset, .unset, .unset, .unset] [(.int (10 : Int32)), (.ref x144), (.ref x144), (.ref x143), (.ref x143)])
      refine Run.via (fun _ => XS.aload X154.at X154.ex rfl (X154.de at_427) rfl rfl) ?_
      show Run _ _ _ _ _ _ _ _ _ _ _ _ _ T154 (mkF m 429 #[.val (.int mk), .val (.int x1), .val (.int x2), .val (.int x3), .val (.int tl), .val (.int ps), .val (.int ch), .val (.ref x101), .val (.int sel), .unset, .unset, .unset, .unset, .unset] [(.ref x101), (.int (10 : Int32)), (.ref x144), (.ref x144), (.ref x143), (.ref x143)])
      refine Run.via (fun _ => XS.bipush X154.at X154.ex rfl (X154.de at_429)) ?_
      show Run _ _ _ _ _ _ _ _ _ _ _ _ _ T154 (mkF m 431 #[.val (.int mk), .val (.int x1), .val (.int x2), .val (.int x3), .val (.int tl), .val (.int ps), .val (.int ch), .val (.ref x101), .val (.int sel), .unset, .unset, .unset, .unset, .unset] [(.int (10 : Int32)), (.ref x101), (.int (10 : Int32)), (.ref x144), (.ref x144), (.ref x143), (.ref x143)])
      refine Run.caload X154 (i := 10) Q154 rfl (Nat.le_of_ble_eq_true rfl) at_431 ?_
      show Run _ _ _ _ _ _ _ _ _ _ _ _ _ T154 (mkF m 432 #[.val (.int mk), .val (.int x1), .val (.int x2), .val (.int x3), .val (.int tl), .val (.int ps), .val (.int ch), .val (.ref x101), .val (.int sel), .unset, .unset, .unset, .unset, .unset] [(.int d10), (.int (10 : Int32)), (.ref x144), (.ref x144), (.ref x143), (.ref x143)])
      refine Run.castore X154 (i := 10) (v' := d10) A154 rfl (Nat.le_of_ble_eq_true rfl) (nar_lat t10.2.2) (Or.inr (by omega)) (by omega) at_432 ?_
      intro T155 h155 L155 X155 K155 z155 A155
      have A155 : Arc .char Z h155 x144 [d0, d1, d2, d3, d4, d5, d6, d7, d8, d9, d10, (0 : Int32), (0 : Int32), (0 : Int32), (0 : Int32), (0 : Int32), (0 : Int32)] := A155
      show Run _ _ _ _ _ _ _ _ _ _ _ _ _ T155 (mkF m 433 #[.val (.int mk), .val (.int x1), .val (.int x2), .val (.int x3), .val (.int tl), .val (.int ps), .val (.int ch), .val (.ref x101), .val (.int sel), .unset, .unset, .unset, .unset, .unset] [(.ref x144), (.ref x143), (.ref x143)])
      have G155 := G154.keep K155 (ninS (neA (by omega)) nin0)
      have Q155 := Q154.keep K155 (ninS (neA (by omega)) nin0)
      refine Run.via (fun _ => XS.dup X155.at X155.ex rfl (X155.de at_433) rfl rfl) ?_
      show Run _ _ _ _ _ _ _ _ _ _ _ _ _ T155 (mkF m 434 #[.val (.int mk), .val (.int x1), .val (.int x2), .val (.int x3), .val (.int tl), .val (.int ps), .val (.int ch), .val (.ref x101), .val (.int sel), .unset, .unset, .unset, .unset, .unset] [(.ref x144), (.ref x144), (.ref x143), (.ref x143)])
      refine Run.via (fun _ => XS.bipush X155.at X155.ex rfl (X155.de at_434)) ?_
      show Run _ _ _ _ _ _ _ _ _ _ _ _ _ T155 (mkF m 436 #[.val (.int mk), .val (.int x1), .val (.int x2), .val (.int x3), .val (.int tl), .val (.int ps), .val (.int ch), .val (.ref x101), .val (.int sel), .unset, .unset, .unset, .unset, .unset] [(.int (11 : Int32)), (.ref x144), (.ref x144), (.ref x143), (.ref x143)])
      refine Run.via (fun _ => XS.aload X155.at X155.ex rfl (X155.de at_436) rfl rfl) ?_
      show Run _ _ _ _ _ _ _ _ _ _ _ _ _ T155 (mkF m 438 #[.val (.int mk), .val (.int x1), .val (.int x2), .val (.int x3), .val (.int tl), .val (.int ps), .val (.int ch), .val (.ref x101), .val (.int sel), .unset, .unset, .unset, .unset, .unset] [(.ref x101), (.int (11 : Int32)), (.ref x144), (.ref x144), (.ref x143), (.ref x143)])
      refine Run.via (fun _ => XS.bipush X155.at X155.ex rfl (X155.de at_438)) ?_
      show Run _ _ _ _ _ _ _ _ _ _ _ _ _ T155 (mkF m 440 #[.val (.int mk), .val (.int x1), .val (.int x2), .val (.int x3), .val (.int tl), .val (.int ps), .val (.int ch), .val (.ref x101), .val (.int sel), .unset, .unset, .unset, .unset, .unset] [(.int (11 : Int32)), (.ref x101), (.int (11 : Int32)), (.ref x144), (.ref x144), (.ref x143), (.ref x143)])
      refine Run.caload X155 (i := 11) Q155 rfl (Nat.le_of_ble_eq_true rfl) at_440 ?_
      show Run _ _ _ _ _ _ _ _ _ _ _ _ _ T155 (mkF m 441 #[.val (.int mk), .val (.int x1), .val (.int x2), .val (.int x3), .val (.int tl), .val (.int ps), .val (.int ch), .val (.ref x101), .val (.int sel), .unset, .unset, .unset, .unset, .unset] [(.int d11), (.int (11 : Int32)), (.ref x144), (.ref x144), (.ref x143), (.ref x143)])
      refine Run.castore X155 (i := 11) (v' := d11) A155 rfl (Nat.le_of_ble_eq_true rfl) (nar_lat t11.2.2) (Or.inr (by omega)) (by omega) at_441 ?_
      intro T156 h156 L156 X156 K156 z156 A156
      have A156 : Arc .char Z h156 x144 [d0, d1, d2, d3, d4, d5, d6, d7, d8, d9, d10, d11, (0 : Int32), (0 : Int32), (0 : Int32), (0 : Int32), (0 : Int32)] := A156
      show Run _ _ _ _ _ _ _ _ _ _ _ _ _ T156 (mkF m 442 #[.val (.int mk), .val (.int x1), .val (.int x2), .val (.int x3), .val (.int tl), .val (.int ps), .val (.int ch), .val (.ref x101), .val (.int sel), .unset, .unset, .unset, .unset, .unset] [(.ref x144), (.ref x143), (.ref x143)])
      have G156 := G155.keep K156 (ninS (neA (by omega)) nin0)
      have Q156 := Q155.keep K156 (ninS (neA (by omega)) nin0)
      refine Run.via (fun _ => XS.dup X156.at X156.ex rfl (X156.de at_442) rfl rfl) ?_
      show Run _ _ _ _ _ _ _ _ _ _ _ _ _ T156 (mkF m 443 #[.val (.int mk), .val (.int x1), .val (.int x2), .val (.int x3), .val (.int tl), .val (.int ps), .val (.int ch), .val (.ref x101), .val (.int sel), .unset, .unset, .unset, .unset, .unset] [(.ref x144), (.ref x144), (.ref x143), (.ref x143)])
      refine Run.via (fun _ => XS.bipush X156.at X156.ex rfl (X156.de at_443)) ?_
      show Run _ _ _ _ _ _ _ _ _ _ _ _ _ T156 (mkF m 445 #[.val (.int mk), .val (.int x1), .val (.int x2), .val (.int x3), .val (.int tl), .val (.int ps), .val (.int ch), .val (.ref x101), .val (.int sel), .unset, .unset, .unset, .unset, .unset] [(.int (12 : Int32)), (.ref x144), (.ref x144), (.ref x143), (.ref x143)])
      refine Run.via (fun _ => XS.aload X156.at X156.ex rfl (X156.de at_445) rfl rfl) ?_
      show Run _ _ _ _ _ _ _ _ _ _ _ _ _ T156 (mkF m 447 #[.val (.int mk), .val (.int x1), .val (.int x2), .val (.int x3), .val (.int tl), .val (.int ps), .val (.int ch), .val (.ref x101), .val (.int sel), .unset, .unset, .unset, .unset, .unset] [(.ref x101), (.int (12 : Int32)), (.ref x144), (.ref x144), (.ref x143), (.ref x143)])
      refine Run.via (fun _ => XS.bipush X156.at X156.ex rfl (X156.de at_447)) ?_
      show Run _ _ _ _ _ _ _ _ _ _ _ _ _ T156 (mkF m 449 #[.val (.int mk), .val (.int x1), .val (.int x2), .val (.int x3), .val (.int tl), .val (.int ps), .val (.int ch), .val (.ref x101), .val (.int sel), .unset, .unset, .unset, .unset, .unset] [(.int (12 : Int32)), (.ref x101), (.int (12 : Int32)), (.ref x144), (.ref x144), (.ref x143), (.ref x143)])
      refine Run.caload X156 (i := 12) Q156 rfl (Nat.le_of_ble_eq_true rfl) at_449 ?_
      show Run _ _ _ _ _ _ _ _ _ _ _ _ _ T156 (mkF m 450 #[.val (.int mk), .val (.int x1), .val (.int x2), .val (.int x3), .val (.int tl), .val (.int ps), .val (.int ch), .val (.ref x101), .val (.int sel), .unset, .unset, .unset, .unset, .unset] [(.int d12), (.int (12 : Int32)), (.ref x144), (.ref x144), (.ref x143), (.ref x143)])
      refine Run.castore X156 (i := 12) (v' := d12) A156 rfl (Nat.le_of_ble_eq_true rfl) (nar_lat t12.2.2) (Or.inr (by omega)) (by omega) at_450 ?_
      intro T157 h157 L157 X157 K157 z157 A157
      have A157 : Arc .char Z h157 x144 [d0, d1, d2, d3, d4, d5, d6, d7, d8, d9, d10, d11, d12, (0 : Int32), (0 : Int32), (0 : Int32), (0 : Int32)] := A157
      show Run _ _ _ _ _ _ _ _ _ _ _ _ _ T157 (mkF m 451 #[.val (.int mk), .val (.int x1), .val (.int x2), .val (.int x3), .val (.int tl), .val (.int ps), .val (.int ch), .val (.ref x101), .val (.int sel), .unset, .unset, .unset, .unset, .unset] [(.ref x144), (.ref x143), (.ref x143)])
      have G157 := G156.keep K157 (ninS (neA (by omega)) nin0)
      have Q157 := Q156.keep K157 (ninS (neA (by omega)) nin0)
      refine Run.via (fun _ => XS.dup X157.at X157.ex rfl (X157.de at_451) rfl rfl) ?_
      show Run _ _ _ _ _ _ _ _ _ _ _ _ _ T157 (mkF m 452 #[.val (.int mk), .val (.int x1), .val (.int x2), .val (.int x3), .val (.int tl), .val (.int ps), .val (.int ch), .val (.ref x101), .val (.int sel), .unset, .unset, .unset, .unset, .unset] [(.ref x144), (.ref x144), (.ref x143), (.ref x143)])
      refine Run.via (fun _ => XS.bipush X157.at X157.ex rfl (X157.de at_452)) ?_
      show Run _ _ _ _ _ _ _ _ _ _ _ _ _ T157 (mkF m 454 #[.val (.int mk), .val (.int x1), .val (.int x2), .val (.int x3), .val (.int tl), .val (.int ps), .val (.int ch), .val (.ref x101), .val (.int sel), .unset, .unset, .unset, .unset, .unset] [(.int (13 : Int32)), (.ref x144), (.ref x144), (.ref x143), (.ref x143)])
      refine Run.via (fun _ => XS.aload X157.at X157.ex rfl (X157.de at_454) rfl rfl) ?_
      show Run _ _ _ _ _ _ _ _ _ _ _ _ _ T157 (mkF m 456 #[.val (.int mk), .val (.int x1), .val (.int x2), .val (.int x3), .val (.int tl), .val (.int ps), .val (.int ch), .val (.ref x101), .val (.int sel), .unset, .unset, .unset, .unset, .unset] [(.ref x101), (.int (13 : Int32)), (.ref x144), (.ref x144), (.ref x143), (.ref x143)])
      refine Run.via (fun _ => XS.bipush X157.at X157.ex rfl (X157.de at_456)) ?_
      show Run _ _ _ _ _ _ _ _ _ _ _ _ _ T157 (mkF m 458 #[.val (.int mk), .val (.int x1), .val (.int x2), .val (.int x3), .val (.int tl), .val (.int ps), .val (.int ch), .val (.ref x101), .val (.int sel), .unset, .unset, .unset, .unset, .unset] [(.int (13 : Int32)), (.ref x101), (.int (13 : Int32)), (.ref x144), (.ref x144), (.ref x143), (.ref x143)])
      refine Run.caload X157 (i := 13) Q157 rfl (Nat.le_of_ble_eq_true rfl) at_458 ?_
      show Run _ _ _ _ _ _ _ _ _ _ _ _ _ T157 (mkF m 459 #[.val (.int mk), .val (.int x1), .val (.int x2), .val (.int x3), .val (.int tl), .val (.int ps), .val (.int ch), .val (.ref x101), .val (.int sel), .unset, .unset, .unset, .unset, .unset] [(.int d13), (.int (13 : Int32)), (.ref x144), (.ref x144), (.ref x143), (.ref x143)])
      refine Run.castore X157 (i := 13) (v' := d13) A157 rfl (Nat.le_of_ble_eq_true rfl) (nar_lat t13.2.2) (Or.inr (by omega)) (by omega) at_459 ?_
      intro T158 h158 L158 X158 K158 z158 A158
      have A158 : Arc .char Z h158 x144 [d0, d1, d2, d3, d4, d5, d6, d7, d8, d9, d10, d11, d12, d13, (0 : Int32), (0 : Int32), (0 : Int32)] := A158
      show Run _ _ _ _ _ _ _ _ _ _ _ _ _ T158 (mkF m 460 #[.val (.int mk), .val (.int x1), .val (.int x2), .val (.int x3), .val (.int tl), .val (.int ps), .val (.int ch), .val (.ref x101), .val (.int sel), .unset, .unset, .unset, .unset, .unset] [(.ref x144), (.ref x143), (.ref x143)])
      have G158 := G157.keep K158 (ninS (neA (by omega)) nin0)
      have Q158 := Q157.keep K158 (ninS (neA (by omega)) nin0)
      refine Run.via (fun _ => XS.dup X158.at X158.ex rfl (X158.de at_460) rfl rfl) ?_
      show Run _ _ _ _ _ _ _ _ _ _ _ _ _ T158 (mkF m 461 #[.val (.int mk), .val (.int x1), .val (.int x2), .val (.int x3), .val (.int tl), .val (.int ps), .val (.int ch), .val (.ref x101), .val (.int sel), .unset, .unset, .unset, .unset, .unset] [(.ref x144), (.ref x144), (.ref x143), (.ref x143)])
      refine Run.via (fun _ => XS.bipush X158.at X158.ex rfl (X158.de at_461)) ?_
      show Run _ _ _ _ _ _ _ _ _ _ _ _ _ T158 (mkF m 463 #[.val (.int mk), .val (.int x1), .val (.int x2), .val (.int x3), .val (.int tl), .val (.int ps), .val (.int ch), .val (.ref x101), .val (.int sel), .unset, .unset, .unset, .unset, .unset] [(.int (14 : Int32)), (.ref x144), (.ref x144), (.ref x143), (.ref x143)])
      refine Run.via (fun _ => XS.aload X158.at X158.ex rfl (X158.de at_463) rfl rfl) ?_
      show Run _ _ _ _ _ _ _ _ _ _ _ _ _ T158 (mkF m 465 #[.val (.int mk), .val (.int x1), .val (.int x2), .val (.int x3), .val (.int tl), .val (.int ps), .val (.int ch), .val (.ref x101), .val (.int sel), .unset, .unset, .unset, .unset, .unset] [(.ref x101), (.int (14 : Int32)), (.ref x144), (.ref x144), (.ref x143), (.ref x143)])
      refine Run.via (fun _ => XS.bipush X158.at X158.ex rfl (X158.de at_465)) ?_
      show Run _ _ _ _ _ _ _ _ _ _ _ _ _ T158 (mkF m 467 #[.val (.int mk), .val (.int x1), .val (.int x2), .val (.int x3), .val (.int tl), .val (.int ps), .val (.int ch), .val (.ref x101), .val (.int sel), .unset, .unset, .unset, .unset, .unset] [(.int (14 : Int32)), (.ref x101), (.int (14 : Int32)), (.ref x144), (.ref x144), (.ref x143), (.ref x143)])
      refine Run.caload X158 (i := 14) Q158 rfl (Nat.le_of_ble_eq_true rfl) at_467 ?_
      show Run _ _ _ _ _ _ _ _ _ _ _ _ _ T158 (mkF m 468 #[.val (.int mk), .val (.int x1), .val (.int x2), .val (.int x3), .val (.int tl), .val (.int ps), .val (.int ch), .val (.ref x101), .val (.int sel), .unset, .unset, .unset, .unset, .unset] [(.int d14), (.int (14 : Int32)), (.ref x144), (.ref x144), (.ref x143), (.ref x143)])
      refine Run.castore X158 (i := 14) (v' := d14) A158 rfl (Nat.le_of_ble_eq_true rfl) (nar_lat t14.2.2) (Or.inr (by omega)) (by omega) at_468 ?_
      intro T159 h159 L159 X159 K159 z159 A159
      have A159 : Arc .char Z h159 x144 [d0, d1, d2, d3, d4, d5, d6, d7, d8, d9, d10, d11, d12, d13, d14, (0 : Int32), (0 : Int32)] := A159
      show Run _ _ _ _ _ _ _ _ _ _ _ _ _ T159 (mkF m 469 #[.val (.int mk), .val (.int x1), .val (.int x2), .val (.int x3), .val (.int tl), .val (.int ps), .val (.int ch), .val (.ref x101), .val (.int sel), .unset, .unset, .unset, .unset, .unset] [(.ref x144), (.ref x143), (.ref x143)])
      have G159 := G158.keep K159 (ninS (neA (by omega)) nin0)
      have Q159 := Q158.keep K159 (ninS (neA (by omega)) nin0)
      refine Run.via (fun _ => XS.dup X159.at X159.ex rfl (X159.de at_469) rfl rfl) ?_
      show Run _ _ _ _ _ _ _ _ _ _ _ _ _ T159 (mkF m 470 #[.val (.int mk), .val (.int x1), .val (.int x2), .val (.int x3), .val (.int tl), .val (.int ps), .val (.int ch), .val (.ref x101), .val (.int sel), .unset, .unset, .unset, .unset, .unset] [(.ref x144), (.ref x144), (.ref x143), (.ref x143)])
      refine Run.via (fun _ => XS.bipush X159.at X159.ex rfl (X159.de at_470)) ?_
      show Run _ _ _ _ _ _ _ _ _ _ _ _ _ T159 (mkF m 472 #[.val (.int mk), .val (.int x1), .val (.int x2), .val (.int x3), .val (.int tl), .val (.int ps), .val (.int ch), .val (.ref x101), .val (.int sel), .unset, .unset, .unset, .unset, .unset] [(.int (15 : Int32)), (.ref x144), (.ref x144), (.ref x143), (.ref x143)])
      refine Run.via (fun _ => XS.aload X159.at X159.ex rfl (X159.de at_472) rfl rfl) ?_
      show Run _ _ _ _ _ _ _ _ _ _ _ _ _ T159 (mkF m 474 #[.val (.int mk), .val (.int x1), .val (.int x2), .val (.int x3), .val (.int tl), .val (.int ps), .val (.int ch), .val (.ref x101), .val (.int sel), .unset, .unset, .unset, .unset, .unset] [(.ref x101), (.int (15 : Int32)), (.ref x144), (.ref x144), (.ref x143), (.ref x143)])
      refine Run.via (fun _ => XS.bipush X159.at X159.ex rfl (X159.de at_474)) ?_
      show Run _ _ _ _ _ _ _ _ _ _ _ _ _ T159 (mkF m 476 #[.val (.int mk), .val (.int x1), .val (.int x2), .val (.int x3), .val (.int tl), .val (.int ps), .val (.int ch), .val (.ref x101), .val (.int sel), .unset, .unset, .unset, .unset, .unset] [(.int (15 : Int32)), (.ref x101), (.int (15 : Int32)), (.ref x144), (.ref x144), (.ref x143), (.ref x143)])
      refine Run.caload X159 (i := 15) Q159 rfl (Nat.le_of_ble_eq_true rfl) at_476 ?_
      show Run _ _ _ _ _ _ _ _ _ _ _ _ _ T159 (mkF m 477 #[.val (.int mk), .val (.int x1), .val (.int x2), .val (.int x3), .val (.int tl), .val (.int ps), .val (.int ch), .val (.ref x101), .val (.int sel), .unset, .unset, .unset, .unset, .unset] [(.int d15), (.int (15 : Int32)), (.ref x144), (.ref x144), (.ref x143), (.ref x143)])
      refine Run.castore X159 (i := 15) (v' := d15) A159 rfl (Nat.le_of_ble_eq_true rfl) (nar_lat t15.2.2) (Or.inr (by omega)) (by omega) at_477 ?_
      intro T160 h160 L160 X160 K160 z160 A160
      have A160 : Arc .char Z h160 x144 [d0, d1, d2, d3, d4, d5, d6, d7, d8, d9, d10, d11, d12, d13, d14, d15, (0 : Int32)] := A160
      show Run _ _ _ _ _ _ _ _ _ _ _ _ _ T160 (mkF m 478 #[.val (.int mk), .val (.int x1), .val (.int x2), .val (.int x3), .val (.int tl), .val (.int ps), .val (.int ch), .val (.ref x101), .val (.int sel), .unset, .unset, .unset, .unset, .unset] [(.ref x144), (.ref x143), (.ref x143)])
      have G160 := G159.keep K160 (ninS (neA (by omega)) nin0)
      have Q160 := Q159.keep K160 (ninS (neA (by omega)) nin0)
      refine Run.via (fun _ => XS.dup X160.at X160.ex rfl (X160.de at_478) rfl rfl) ?_
      show Run _ _ _ _ _ _ _ _ _ _ _ _ _ T160 (mkF m 479 #[.val (.int mk), .val (.int x1), .val (.int x2), .val (.int x3), .val (.int tl), .val (.int ps), .val (.int ch), .val (.ref x101), .val (.int sel), .unset, .unset, .unset, .unset, .unset] [(.ref x144), (.ref x144), (.ref x143), (.ref x143)])
      refine Run.via (fun _ => XS.bipush X160.at X160.ex rfl (X160.de at_479)) ?_
      show Run _ _ _ _ _ _ _ _ _ _ _ _ _ T160 (mkF m 481 #[.val (.int mk), .val (.int x1), .val (.int x2), .val (.int x3), .val (.int tl), .val (.int ps), .val (.int ch), .val (.ref x101), .val (.int sel), .unset, .unset, .unset, .unset, .unset] [(.int (16 : Int32)), (.ref x144), (.ref x144), (.ref x143), (.ref x143)])
      refine Run.via (fun _ => XS.aload X160.at X160.ex rfl (X160.de at_481) rfl rfl) ?_
      show Run _ _ _ _ _ _ _ _ _ _ _ _ _ T160 (mkF m 483 #[.val (.int mk), .val (.int x1), .val (.int x2), .val (.int x3), .val (.int tl), .val (.int ps), .val (.int ch), .val (.ref x101), .val (.int sel), .unset, .unset, .unset, .unset, .unset] [(.ref x101), (.int (16 : Int32)), (.ref x144), (.ref x144), (.ref x143), (.ref x143)])
      refine Run.via (fun _ => XS.bipush X160.at X160.ex rfl (X160.de at_483)) ?_
      show Run _ _ _ _ _ _ _ _ _ _ _ _ _ T160 (mkF m 485 #[.val (.int mk), .val (.int x1), .val (.int x2), .val (.int x3), .val (.int tl), .val (.int ps), .val (.int ch), .val (.ref x101), .val (.int sel), .unset, .unset, .unset, .unset, .unset] [(.int (16 : Int32)), (.ref x101), (.int (16 : Int32)), (.ref x144), (.ref x144), (.ref x143), (.ref x143)])
      refine Run.caload X160 (i := 16) Q160 rfl (Nat.le_of_ble_eq_true rfl) at_485 ?_
      show Run _ _ _ _ _ _ _ _ _ _ _ _ _ T160 (mkF m 486 #[.val (.int mk), .val (.int x1), .val (.int x2), .val (.int x3), .val (.int tl), .val (.int ps), .val (.int ch), .val (.ref x101), .val (.int sel), .unset, .unset, .unset, .unset, .unset] [(.int d16), (.int (16 : Int32)), (.ref x144), (.ref x144), (.ref x143), (.ref x143)])
      refine Run.castore X160 (i := 16) (v' := d16) A160 rfl (Nat.le_of_ble_eq_true rfl) (nar_lat t16.2.2) (Or.inr (by omega)) (by omega) at_486 ?_
      intro T161 h161 L161 X161 K161 z161 A161
      have A161 : Arc .char Z h161 x144 [d0, d1, d2, d3, d4, d5, d6, d7, d8, d9, d10, d11, d12, d13, d14, d15, d16] := A161
      show Run _ _ _ _ _ _ _ _ _ _ _ _ _ T161 (mkF m 487 #[.val (.int mk), .val (.int x1), .val (.int x2), .val (.int x3), .val (.int tl), .val (.int ps), .val (.int ch), .val (.ref x101), .val (.int sel), .unset, .unset, .unset, .unset, .unset] [(.ref x144), (.ref x143), (.ref x143)])
      have G161 := G160.keep K161 (ninS (neA (by omega)) nin0)
      have Q161 := Q160.keep K161 (ninS (neA (by omega)) nin0)
      have hcs162 : ∀ c ∈ ([d0, d1, d2, d3, d4, d5, d6, d7, d8, d9, d10, d11, d12, d13, d14, d15, d16] : List Int32), ¬ c < 0 ∧ ¬ (255 : Int32) < c := lsS t0.2.2 (lsS t1.2.2 (lsS t2.2.2 (lsS t3.2.2 (lsS t4.2.2 (lsS t5.2.2 (lsS t6.2.2 (lsS t7.2.2 (lsS t8.2.2 (lsS t9.2.2 (lsS t10.2.2 (lsS t11.2.2 (lsS t12.2.2 (lsS t13.2.2 (lsS t14.2.2 (lsS t15.2.2 (lsS t16.2.2 (ls0)))))))))))))))))
      refine Run.initStr hw hS X161 (cs := [d0, d1, d2, d3, d4, d5, d6, d7, d8, d9, d10, d11, d12, d13, d14, d15, d16]) (W := 1) G161 A161 hcs162 (Nat.le_of_ble_eq_true rfl) (wd hw 42 rfl) (wd hw 43 rfl) (wd hw 10 rfl) at_487 rfl (Or.inr (by omega)) (by omega) (by simp) (Nat.le_of_ble_eq_true rfl) (by decide) (by decide) (Nat.le_of_ble_eq_true rfl) (Nat.le_of_ble_eq_true rfl) ?_
      intro T162 h162 L162 X162 K162 S162
      show Run _ _ _ _ _ _ _ _ _ _ _ _ _ T162 (mkF m 490 #[.val (.int mk), .val (.int x1), .val (.int x2), .val (.int x3), .val (.int tl), .val (.int ps), .val (.int ch), .val (.ref x101), .val (.int sel), .unset, .unset, .unset, .unset, .unset] [(.ref x143)])
      have KK0 := K143
      have KK1 := KK0.trans K144 (fun z hz => by first | (cases hz; done) | (cases List.mem_singleton.mp hz; exact Or.inr (by omega)))
      have KK2 := KK1.trans K145 (fun z hz => by first | (cases hz; done) | (cases List.mem_singleton.mp hz; exact Or.inr (by omega)))
      have KK3 := KK2.trans K146 (fun z hz => by first | (cases hz; done) | (cases List.mem_singleton.mp hz; exact Or.inr (by omega)))
      have KK4 := KK3.trans K147 (fun z hz => by first | (cases hz; done) | (cases List.mem_singleton.mp hz; exact Or.inr (by omega)))
      have KK5 := KK4.trans K148 (fun z hz => by first | (cases hz; done) | (cases List.mem_singleton.mp hz; exact Or.inr (by omega)))
      have KK6 := KK5.trans K149 (fun z hz => by first | (cases hz; done) | (cases List.mem_singleton.mp hz; exact Or.inr (by omega)))
      have KK7 := KK6.trans K150 (fun z hz => by first | (cases hz; done) | (cases List.mem_singleton.mp hz; exact Or.inr (by omega)))
      have KK8 := KK7.trans K151 (fun z hz => by first | (cases hz; done) | (cases List.mem_singleton.mp hz; exact Or.inr (by omega)))
      have KK9 := KK8.trans K152 (fun z hz => by first | (cases hz; done) | (cases List.mem_singleton.mp hz; exact Or.inr (by omega)))
      have KK10 := KK9.trans K153 (fun z hz => by first | (cases hz; done) | (cases List.mem_singleton.mp hz; exact Or.inr (by omega)))
      have KK11 := KK10.trans K154 (fun z hz => by first | (cases hz; done) | (cases List.mem_singleton.mp hz; exact Or.inr (by omega)))
      have KK12 := KK11.trans K155 (fun z hz => by first | (cases hz; done) | (cases List.mem_singleton.mp hz; exact Or.inr (by omega)))
      have KK13 := KK12.trans K156 (fun z hz => by first | (cases hz; done) | (cases List.mem_singleton.mp hz; exact Or.inr (by omega)))
      have KK14 := KK13.trans K157 (fun z hz => by first | (cases hz; done) | (cases List.mem_singleton.mp hz; exact Or.inr (by omega)))
      have KK15 := KK14.trans K158 (fun z hz => by first | (cases hz; done) | (cases List.mem_singleton.mp hz; exact Or.inr (by omega)))
      have KK16 := KK15.trans K159 (fun z hz => by first | (cases hz; done) | (cases List.mem_singleton.mp hz; exact Or.inr (by omega)))
      have KK17 := KK16.trans K160 (fun z hz => by first | (cases hz; done) | (cases List.mem_singleton.mp hz; exact Or.inr (by omega)))
      have KK18 := KK17.trans K161 (fun z hz => by first | (cases hz; done) | (cases List.mem_singleton.mp hz; exact Or.inr (by omega)))
      have KK19 := KK18.trans K162 (fun z hz => by first | (cases hz; done) | (cases List.mem_singleton.mp hz; exact Or.inr (by omega)))
      refine Run.via (fun _ => XS.astore X162.at X162.ex rfl (X162.de at_490) rfl rfl (l' := #[.val (.int mk), .val (.int x1), .val (.int x2), .val (.int x3), .val (.int tl), .val (.int ps), .val (.int ch), .val (.ref x101), .val (.int sel), .val (.ref x143), .unset, .unset, .unset, .unset]) rfl) ?_
      show Run _ _ _ _ _ _ _ _ _ _ _ _ _ T162 (mkF m 492 #[.val (.int mk), .val (.int x1), .val (.int x2), .val (.int x3), .val (.int tl), .val (.int ps), .val (.int ch), .val (.ref x101), .val (.int sel), .val (.ref x143), .unset, .unset, .unset, .unset] [])
      refine Run.via (fun _ => XS.bipush X162.at X162.ex rfl (X162.de at_492)) ?_
      show Run _ _ _ _ _ _ _ _ _ _ _ _ _ T162 (mkF m 494 #[.val (.int mk), .val (.int x1), .val (.int x2), .val (.int x3), .val (.int tl), .val (.int ps), .val (.int ch), .val (.ref x101), .val (.int sel), .val (.ref x143), .unset, .unset, .unset, .unset] [(.int (17 : Int32))])
      refine Run.via (fun _ => XS.istore X162.at X162.ex rfl (X162.de at_494) rfl (l' := #[.val (.int mk), .val (.int x1), .val (.int x2), .val (.int x3), .val (.int tl), .val (.int ps), .val (.int ch), .val (.ref x101), .val (.int sel), .val (.ref x143), .val (.int (17 : Int32)), .unset, .unset, .unset]) rfl) ?_
      show Run _ _ _ _ _ _ _ _ _ _ _ _ _ T162 (mkF m 496 #[.val (.int mk), .val (.int x1), .val (.int x2), .val (.int x3), .val (.int tl), .val (.int ps), .val (.int ch), .val (.ref x101), .val (.int sel), .val (.ref x143), .val (.int (17 : Int32)), .unset, .unset, .unset] [])
      refine Run.via (fun _ => XS.goto X162.at X162.ex rfl (pc0 := 496) (pc' := 711) rfl (X162.de at_496) (by decide) (by decide)) ?_
      show Run _ _ _ _ _ _ _ _ _ _ _ _ _ T162 (mkF m 711 #[.val (.int mk), .val (.int x1), .val (.int x2), .val (.int x3), .val (.int tl), .val (.int ps), .val (.int ch), .val (.ref x101), .val (.int sel), .val (.ref x143), .val (.int (17 : Int32)), .unset, .unset, .unset] [])
      exact J711 _ _ _ _ 17 (by decide) ((X162.less (fun z hz => by simp at hz ⊢; simp [hz])).mono (Nat.le_of_ble_eq_true rfl) (Nat.le_of_ble_eq_true rfl)) (SL19.keep KK19) S162
    ·
      refine Run.via (fun _ => XS.ifYes X137.at X137.ex rfl (pc0 := 335) (pc' := 499) rfl (X137.de at_335) rfl ((if0 _ _).trans (feq z0).2) (by decide) (by decide)) ?_
      show Run _ _ _ _ _ _ _ _ _ _ _ _ _ T137 (mkF m 499 #[.val (.int mk), .val (.int x1), .val (.int x2), .val (.int x3), .val (.int tl), .val (.int ps), .val (.int ch), .val (.ref x101), .val (.int sel), .unset, .unset, .unset, .unset, .unset] [])
      refine Run.via (fun _ => XS.iload X137.at X137.ex rfl (X137.de at_499) rfl) ?_
      show Run _ _ _ _ _ _ _ _ _ _ _ _ _ T137 (mkF m 501 #[.val (.int mk), .val (.int x1), .val (.int x2), .val (.int x3), .val (.int tl), .val (.int ps), .val (.int ch), .val (.ref x101), .val (.int sel), .unset, .unset, .unset, .unset, .unset] [(.int sel)])
      refine Run.via (fun _ => XS.iconst X137.at X137.ex rfl (X137.de at_501)) ?_
      show Run _ _ _ _ _ _ _ _ _ _ _ _ _ T137 (mkF m 502 #[.val (.int mk), .val (.int x1), .val (.int x2), .val (.int x3), .val (.int tl), .val (.int ps), .val (.int ch), .val (.ref x101), .val (.int sel), .unset, .unset, .unset, .unset, .unset] [(.int (1 : Int32)), (.int sel)])
      by_cases z1 : sel = (1 : Int32)
      ·
        refine Run.via (fun _ => XS.icmpNo X137.at X137.ex rfl (X137.de at_502) rfl (teq z1).2) ?_
        show Run _ _ _ _ _ _ _ _ _ _ _ _ _ T137 (mkF m 505 #[.val (.int mk), .val (.int x1), .val (.int x2), .val (.int x3), .val (.int tl), .val (.int ps), .val (.int ch), .val (.ref x101), .val (.int sel), .unset, .unset, .unset, .unset, .unset] [])
        have uz := X137.kp.1
        have ulz := A137.lt
        have u163 := X137.kp.1
        have ho163 := O.1
        refine Run.new X137 (wd hw 41 rfl) (wd hw 10 rfl) (wd hw 9 rfl) at_505 (Nat.le_of_ble_eq_true rfl) (Nat.le_of_ble_eq_true rfl) ?_
        intro T164 h164 x164 g164 X164 K164 z164 E164 D164
        show Run _ _ _ _ _ _ _ _ _ _ _ _ _ T164 (mkF m 508 #[.val (.int mk), .val (.int x1), .val (.int x2), .val (.int x3), .val (.int tl), .val (.int ps), .val (.int ch), .val (.ref x101), .val (.int sel), .unset, .unset, .unset, .unset, .unset] [(.ref x164)])
        have Q164 := A137.keep K164 nin0
        have G164 : Raw Z h164 x164 := ⟨E164, D164 (Or.inr (wd hw 12 rfl)) (ty := (.array .byte)) (by decide), D164 (Or.inr (wd hw 13 rfl)) (ty := .byte) (by decide)⟩
        have s164 := K164.1
        refine Run.via (fun _ => XS.dup X164.at X164.ex rfl (X164.de at_508) rfl rfl) ?_
        show Run _ _ _ _ _ _ _ _ _ _ _ _ _ T164 (mkF m 509 #[.val (.int mk), .val (.int x1), .val (.int x2), .val (.int x3), .val (.int tl), .val (.int ps), .val (.int ch), .val (.ref x101), .val (.int sel), .unset, .unset, .unset, .unset, .unset] [(.ref x164), (.ref x164)])
        refine Run.via (fun _ => XS.bipush X164.at X164.ex rfl (X164.de at_509)) ?_
        show Run _ _ _ _ _ _ _ _ _ _ _ _ _ T164 (mkF m 511 #[.val (.int mk), .val (.int x1), .val (.int x2), .val (.int x3), .val (.int tl), .val (.int ps), .val (.int ch), .val (.ref x101), .val (.int sel), .unset, .unset, .unset, .unset, .unset] [(.int (18 : Int32)), (.ref x164), (.ref x164)])
        refine Run.newarr X164 (aty := .char) (n := 18) (cap := 18) (wd hw 0 rfl) rfl at_511 rfl (Nat.le_refl _) (by decide) (Nat.le_of_ble_eq_true rfl) (Nat.le_of_ble_eq_true rfl) ?_
        intro T165 h165 x165 g165 X165 K165 z165 A165
        have A165 : Arc .char Z h165 x165 [(0 : Int32), (0 : Int32), (0 : Int32), (0 : Int32), (0 : Int32), (0 : Int32), (0 : Int32), (0 : Int32), (0 : Int32), (0 : Int32), (0 : Int32), (0 : Int32), (0 : Int32), (0 : Int32), (0 : Int32), (0 : Int32), (0 : Int32), (0 : Int32)] := A165
        show Run _ _ _ _ _ _ _ _ _ _ _ _ _ T165 (mkF m 513 #[.val (.int mk), .val (.int x1), .val (.int x2), .val (.int x3), .val (.int tl), .val (.int ps), .val (.int ch), .val (.ref x101), .val (.int sel), .unset, .unset, .unset, .unset, .unset] [(.ref x165), (.ref x164), (.ref x164)])
        have s165 := K165.1
        have G165 := G164.keep K165 nin0
        have Q165 := Q164.keep K165 nin0
        refine Run.via (fun _ => XS.dup X165.at X165.ex rfl (X165.de at_513) rfl rfl) ?_
        show Run _ _ _ _ _ _ _ _ _ _ _ _ _ T165 (mkF m 514 #[.val (.int mk), .val (.int x1), .val (.int x2), .val (.int x3), .val (.int tl), .val (.int ps), .val (.int ch), .val (.ref x101), .val (.int sel), .unset, .unset, .unset, .unset, .unset] [(.ref x165), (.ref x165), (.ref x164), (.ref x164)])
        refine Run.via (fun _ => XS.iconst X165.at X165.ex rfl (X165.de at_514)) ?_
        show Run _ _ _ _ _ _ _ _ _ _ _ _ _ T165 (mkF m 515 #[.val (.int mk), .val (.int x1), .val (.int x2), .val (.int x3), .val (.int tl), .val (.int ps), .val (.int ch), .val (.ref x101), .val (.int sel), .unset, .unset, .unset, .unset, .unset] [(.int (0 : Int32)), (.ref x165), (.ref x165), (.ref x164), (.ref x164)])
        refine Run.via (fun _ => XS.aload X165.at X165.ex rfl (X165.de at_515) rfl rfl) ?_
        show Run _ _ _ _ _ _ _ _ _ _ _ _ _ T165 (mkF m 517 #[.val (.int mk), .val (.int x1), .val (.int x2), .val (.int x3), .val (.int tl), .val (.int ps), .val (.int ch), .val (.ref x101), .val (.int sel), .unset, .unset, .unset, .unset, .unset] [(.ref x101), (.int (0 : Int32)), (.ref x165), (.ref x165), (.ref x164), (.ref x164)])
        refine Run.via (fun _ => XS.iconst X165.at X165.ex rfl (X165.de at_517)) ?_
        show Run _ _ _ _ _ _ _ _ _ _ _ _ _ T165 (mkF m 518 #[.val (.int mk), .val (.int x1), .val (.int x2), .val (.int x3), .val (.int tl), .val (.int ps), .val (.int ch), .val (.ref x101), .val (.int sel), .unset, .unset, .unset, .unset, .unset] [(.int (0 : Int32)), (.ref x101), (.int (0 : Int32)), (.ref x165), (.ref x165), (.ref x164), (.ref x164)])
        refine Run.caload X165 (i := 0) Q165 rfl (Nat.le_of_ble_eq_true rfl) at_518 ?_
        show Run _ _ _ _ _ _ _ _ _ _ _ _ _ T165 (mkF m 519 #[.val (.int mk), .val (.int x1), .val (.int x2), .val (.int x3), .val (.int tl), .val (.int ps), .val (.int ch), .val (.ref x101), .val (.int sel), .unset, .unset, .unset, .unset, .unset] [(.int d0), (.int (0 : Int32)), (.ref x165), (.ref x165), (.ref x164), (.ref x164)])
        refine Run.castore X165 (i := 0) (v' := d0) A165 rfl (Nat.le_of_ble_eq_true rfl) (nar_lat t0.2.2) (Or.inr (by omega)) (by omega) at_519 ?_
        intro T166 h166 L166 X166 K166 z166 A166
        have A166 : Arc .char Z h166 x165 [d0, (0 : Int32), (0 : Int32), (0 : Int32), (0 : Int32), (0 : Int32), (0 : Int32), (0 : Int32), (0 : Int32), (0 : Int32), (0 : Int32), (0 : Int32), (0 : Int32), (0 : Int32), (0 : Int32), (0 : Int32), (0 : Int32), (0 : Int32)] := A166
        show Run _ _ _ _ _ _ _ _ _ _ _ _ _ T166 (mkF m 520 #[.val (.int mk), .val (.int x1), .val (.int x2), .val (.int x3), .val (.int tl), .val (.int ps), .val (.int ch), .val (.ref x101), .val (.int sel), .unset, .unset, .unset, .unset, .unset] [(.ref x165), (.ref x164), (.ref x164)])
        have G166 := G165.keep K166 (ninS (neA (by omega)) nin0)
        have Q166 := Q165.keep K166 (ninS (neA (by omega)) nin0)
        refine Run.via (fun _ => XS.dup X166.at X166.ex rfl (X166.de at_520) rfl rfl) ?_
        show Run _ _ _ _ _ _ _ _ _ _ _ _ _ T166 (mkF m 521 #[.val (.int mk), .val (.int x1), .val (.int x2), .val (.int x3), .val (.int tl), .val (.int ps), .val (.int ch), .val (.ref x101), .val (.int sel), .unset, .unset, .unset, .unset, .unset] [(.ref x165), (.ref x165), (.ref x164), (.ref x164)])
        refine Run.via (fun _ => XS.iconst X166.at X166.ex rfl (X166.de at_521)) ?_
        show Run _ _ _ _ _ _ _ _ _ _ _ _ _ T166 (mkF m 522 #[.val (.int mk), .val (.int x1), .val (.int x2), .val (.int x3), .val (.int tl), .val (.int ps), .val (.int ch), .val (.ref x101), .val (.int sel), .unset, .unset, .unset, .unset, .unset] [(.int (1 : Int32)), (.ref x165), (.ref x165), (.ref x164), (.ref x164)])
        refine Run.via (fun _ => XS.aload X166.at X166.ex rfl (X166.de at_522) rfl rfl) ?_
        show Run _ _ _ _ _ _ _ _ _ _ _ _ _ T166 (mkF m 524 #[.val (.int mk), .val (.int x1), .val (.int x2), .val (.int x3), .val (.int tl), .val (.int ps), .val (.int ch), .val (.ref x101), .val (.int sel), .unset, .unset, .unset, .unset, .unset] [(.ref x101), (.int (1 : Int32)), (.ref x165), (.ref x165), (.ref x164), (.ref x164)])
        refine Run.via (fun _ => XS.iconst X166.at X166.ex rfl (X166.de at_524)) ?_
        show Run _ _ _ _ _ _ _ _ _ _ _ _ _ T166 (mkF m 525 #[.val (.int mk), .val (.int x1), .val (.int x2), .val (.int x3), .val (.int tl), .val (.int ps), .val (.int ch), .val (.ref x101), .val (.int sel), .unset, .unset, .unset, .unset, .unset] [(.int (1 : Int32)), (.ref x101), (.int (1 : Int32)), (.ref x165), (.ref x165), (.ref x164), (.ref x164)])
        refine Run.caload X166 (i := 1) Q166 rfl (Nat.le_of_ble_eq_true rfl) at_525 ?_
        show Run _ _ _ _ _ _ _ _ _ _ _ _ _ T166 (mkF m 526 #[.val (.int mk), .val (.int x1), .val (.int x2), .val (.int x3), .val (.int tl), .val (.int ps), .val (.int ch), .val (.ref x101), .val (.int sel), .unset, .unset, .unset, .unset, .unset] [(.int d1), (.int (1 : Int32)), (.ref x165), (.ref x165), (.ref x164), (.ref x164)])
        refine Run.castore X166 (i := 1) (v' := d1) A166 rfl (Nat.le_of_ble_eq_true rfl) (nar_lat t1.2.2) (Or.inr (by omega)) (by omega) at_526 ?_
        intro T167 h167 L167 X167 K167 z167 A167
        have A167 : Arc .char Z h167 x165 [d0, d1, (0 : Int32), (0 : Int32), (0 : Int32), (0 : Int32), (0 : Int32), (0 : Int32), (0 : Int32), (0 : Int32), (0 : Int32), (0 : Int32), (0 : Int32), (0 : Int32), (0 : Int32), (0 : Int32), (0 : Int32), (0 : Int32)] := A167
        show Run _ _ _ _ _ _ _ _ _ _ _ _ _ T167 (mkF m 527 #[.val (.int mk), .val (.int x1), .val (.int x2), .val (.int x3), .val (.int tl), .val (.int ps), .val (.int ch), .val (.ref x101), .val (.int sel), .unset, .unset, .unset, .unset, .unset] [(.ref x165), (.ref x164), (.ref x164)])
        have G167 := G166.keep K167 (ninS (neA (by omega)) nin0)
        have Q167 := Q166.keep K167 (ninS (neA (by omega)) nin0)
        refine Run.via (fun _ => XS.dup X167.at X167.ex rfl (X167.de at_527) rfl rfl) ?_
        show Run _ _ _ _ _ _ _ _ _ _ _ _ _ T167 (mkF m 528 #[.val (.int mk), .val (.int x1), .val (.int x2), .val (.int x3), .val (.int tl), .val (.int ps), .val (.int ch), .val (.ref x101), .val (.int sel), .unset, .unset, .unset, .unset, .unset] [(.ref x165), (.ref x165), (.ref x164), (.ref x164)])
        refine Run.via (fun _ => XS.iconst X167.at X167.ex rfl (X167.de at_528)) ?_
        show Run _ _ _ _ _ _ _ _ _ _ _ _ _ T167 (mkF m 529 #[.val (.int mk), .val (.int x1), .val (.int x2), .val (.int x3), .val (.int tl), .val (.int ps), .val (.int ch), .val (.ref x101), .val (.int sel), .unset, .unset, .unset, .unset, .unset] [(.int (2 : Int32)), (.ref x165), (.ref x165), (.ref x164), (.ref x164)])
        refine Run.via (fun _ => XS.aload X167.at X167.ex rfl (X167.de at_529) rfl rfl) ?_
        show Run _ _ _ _ _ _ _ _ _ _ _ _ _ T167 (mkF m 531 #[.val (.int mk), .val (.int x1), .val (.int x2), .val (.int x3), .val (.int tl), .val (.int ps), .val (.int ch), .val (.ref x101), .val (.int sel), .unset, .unset, .unset, .unset, .unset] [(.ref x101), (.int (2 : Int32)), (.ref x165), (.ref x165), (.ref x164), (.ref x164)])
        refine Run.via (fun _ => XS.iconst X167.at X167.ex rfl (X167.de at_531)) ?_
        show Run _ _ _ _ _ _ _ _ _ _ _ _ _ T167 (mkF m 532 #[.val (.int mk), .val (.int x1), .val (.int x2), .val (.int x3), .val (.int tl), .val (.int ps), .val (.int ch), .val (.ref x101), .val (.int sel), .unset, .unset, .unset, .unset, .unset] [(.int (2 : Int32)), (.ref x101), (.int (2 : Int32)), (.ref x165), (.ref x165), (.ref x164), (.ref x164)])
        refine Run.caload X167 (i := 2) Q167 rfl (Nat.le_of_ble_eq_true rfl) at_532 ?_
        show Run _ _ _ _ _ _ _ _ _ _ _ _ _ T167 (mkF m 533 #[.val (.int mk), .val (.int x1), .val (.int x2), .val (.int x3), .val (.int tl), .val (.int ps), .val (.int ch), .val (.ref x101), .val (.int sel), .unset, .unset, .unset, .unset, .unset] [(.int d2), (.int (2 : Int32)), (.ref x165), (.ref x165), (.ref x164), (.ref x164)])
        refine Run.castore X167 (i := 2) (v' := d2) A167 rfl (Nat.le_of_ble_eq_true rfl) (nar_lat t2.2.2) (Or.inr (by omega)) (by omega) at_533 ?_
        intro T168 h168 L168 X168 K168 z168 A168
        have A168 : Arc .char Z h168 x165 [d0, d1, d2, (0 : Int32), (0 : Int32), (0 : Int32), (0 : Int32), (0 : Int32), (0 : Int32), (0 : Int32), (0 : Int32), (0 : Int32), (0 : Int32), (0 : Int32), (0 : Int32), (0 : Int32), (0 : Int32), (0 : Int32)] := A168
        show Run _ _ _ _ _ _ _ _ _ _ _ _ _ T168 (mkF m 534 #[.val (.int mk), .val (.int x1), .val (.int x2), .val (.int x3), .val (.int tl), .val (.int ps), .val (.int ch), .val (.ref x101), .val (.int sel), .unset, .unset, .unset, .unset, .unset] [(.ref x165), (.ref x164), (.ref x164)])
        have G168 := G167.keep K168 (ninS (neA (by omega)) nin0)
        have Q168 := Q167.keep K168 (ninS (neA (by omega)) nin0)
        refine Run.via (fun _ => XS.dup X168.at X168.ex rfl (X168.de at_534) rfl rfl) ?_
        show Run _ _ _ _ _ _ _ _ _ _ _ _ _ T168 (mkF m 535 #[.val (.int mk), .val (.int x1), .val (.int x2), .val (.int x3), .val (.int tl), .val (.int ps), .val (.int ch), .val (.ref x101), .val (.int sel), .unset, .unset, .unset, .unset, .unset] [(.ref x165), (.ref x165), (.ref x164), (.ref x164)])
        refine Run.via (fun _ => XS.iconst X168.at X168.ex rfl (X168.de at_535)) ?_
        show Run _ _ _ _ _ _ _ _ _ _ _ _ _ T168 (mkF m 536 #[.val (.int mk), .val (.int x1), .val (.int x2), .val (.int x3), .val (.int tl), .val (.int ps), .val (.int ch), .val (.ref x101), .val (.int sel), .unset, .unset, .unset, .unset, .unset] [(.int (3 : Int32)), (.ref x165), (.ref x165), (.ref x164), (.ref x164)])
        refine Run.via (fun _ => XS.aload X168.at X168.ex rfl (X168.de at_536) rfl rfl) ?_
        show Run _ _ _ _ _ _ _ _ _ _ _ _ _ T168 (mkF m 538 #[.val (.int mk), .val (.int x1), .val (.int x2), .val (.int x3), .val (.int tl), .val (.int ps), .val (.int ch), .val (.ref x101), .val (.int sel), .unset, .unset, .unset, .unset, .unset] [(.ref x101), (.int (3 : Int32)), (.ref x165), (.ref x165), (.ref x164), (.ref x164)])
        refine Run.via (fun _ => XS.iconst X168.at X168.ex rfl (X168.de at_538)) ?_
        show Run _ _ _ _ _ _ _ _ _ _ _ _ _ T168 (mkF m 539 #[.val (.int mk), .val (.int x1), .val (.int x2), .val (.int x3), .val (.int tl), .val (.int ps), .val (.int ch), .val (.ref x101), .val (.int sel), .unset, .unset, .unset, .unset, .unset] [(.int (3 : Int32)), (.ref x101), (.int (3 : Int32)), (.ref x165), (.ref x165), (.ref x164), (.ref x164)])
        refine Run.caload X168 (i := 3) Q168 rfl (Nat.le_of_ble_eq_true rfl) at_539 ?_
        show Run _ _ _ _ _ _ _ _ _ _ _ _ _ T168 (mkF m 540 #[.val (.int mk), .val (.int x1), .val (.int x2), .val (.int x3), .val (.int tl), .val (.int ps), .val (.int ch), .val (.ref x101), .val (.int sel), .unset, .unset, .unset, .unset, .unset] [(.int d3), (.int (3 : Int32)), (.ref x165), (.ref x165), (.ref x164), (.ref x164)])
        refine Run.castore X168 (i := 3) (v' := d3) A168 rfl (Nat.le_of_ble_eq_true rfl) (nar_lat t3.2.2) (Or.inr (by omega)) (by omega) at_540 ?_
        intro T169 h169 L169 X169 K169 z169 A169
        have A169 : Arc .char Z h169 x165 [d0, d1, d2, d3, (0 : Int32), (0 : Int32), (0 : Int32), (0 : Int32), (0 : Int32), (0 : Int32), (0 : Int32), (0 : Int32), (0 : Int32), (0 : Int32), (0 : Int32), (0 : Int32), (0 : Int32), (0 : Int32)] := A169
        show Run _ _ _ _ _ _ _ _ _ _ _ _ _ T169 (mkF m 541 #[.val (.int mk), .val (.int x1), .val (.int x2), .val (.int x3), .val (.int tl), .val (.int ps), .val (.int ch), .val (.ref x101), .val (.int sel), .unset, .unset, .unset, .unset, .unset] [(.ref x165), (.ref x164), (.ref x164)])
        have G169 := G168.keep K169 (ninS (neA (by omega)) nin0)
        have Q169 := Q168.keep K169 (ninS (neA (by omega)) nin0)
        refine Run.via (fun _ => XS.dup X169.at X169.ex rfl (X169.de at_541) rfl rfl) ?_
        show Run _ _ _ _ _ _ _ _ _ _ _ _ _ T169 (mkF m 542 #[.val (.int mk), .val (.int x1), .val (.int x2), .val (.int x3), .val (.int tl), .val (.int ps), .val (.int ch), .val (.ref x101), .val (.int sel), .unset, .unset, .unset, .unset, .unset] [(.ref x165), (.ref x165), (.ref x164), (.ref x164)])
        refine Run.via (fun _ => XS.iconst X169.at X169.ex rfl (X169.de at_542)) ?_
        show Run _ _ _ _ _ _ _ _ _ _ _ _ _ T169 (mkF m 543 #[.val (.int mk), .val (.int x1), .val (.int x2), .val (.int x3), .val (.int tl), .val (.int ps), .val (.int ch), .val (.ref x101), .val (.int sel), .unset, .unset, .unset, .unset, .unset] [(.int (4 : Int32)), (.ref x165), (.ref x165), (.ref x164), (.ref x164)])
        refine Run.via (fun _ => XS.aload X169.at X169.ex rfl (X169.de at_543) rfl rfl) ?_
        show Run _ _ _ _ _ _ _ _ _ _ _ _ _ T169 (mkF m 545 #[.val (.int mk), .val (.int x1), .val (.int x2), .val (.int x3), .val (.int tl), .val (.int ps), .val (.int ch), .val (.ref x101), .val (.int sel), .unset, .unset, .unset, .unset, .unset] [(.ref x101), (.int (4 : Int32)), (.ref x165), (.ref x165), (.ref x164), (.ref x164)])
        refine Run.via (fun _ => XS.iconst X169.at X169.ex rfl (X169.de at_545)) ?_
        show Run _ _ _ _ _ _ _ _ _ _ _ _ _ T169 (mkF m 546 #[.val (.int mk), .val (.int x1), .val (.int x2), .val (.int x3), .val (.int tl), .val (.int ps), .val (.int ch), .val (.ref x101), .val (.int sel), .unset, .unset, .unset, .unset, .unset] [(.int (4 : Int32)), (.ref x101), (.int (4 : Int32)), (.ref x165), (.ref x165), (.ref x164), (.ref x164)])
        refine Run.caload X169 (i := 4) Q169 rfl (Nat.le_of_ble_eq_true rfl) at_546 ?_
        show Run _ _ _ _ _ _ _ _ _ _ _ _ _ T169 (mkF m 547 #[.val (.int mk), .val (.int x1), .val (.int x2), .val (.int x3), .val (.int tl), .val (.int ps), .val (.int ch), .val (.ref x101), .val (.int sel), .unset, .unset, .unset, .unset, .unset] [(.int d4), (.int (4 : Int32)), (.ref x165), (.ref x165), (.ref x164), (.ref x164)])
        refine Run.castore X169 (i := 4) (v' := d4) A169 rfl (Nat.le_of_ble_eq_true rfl) (nar_lat t4.2.2) (Or.inr (by omega)) (by omega) at_547 ?_
        intro T170 h170 L170 X170 K170 z170 A170
        have A170 : Arc .char Z h170 x165 [d0, d1, d2, d3, d4, (0 : Int32), (0 : Int32), (0 : Int32), (0 : Int32), (0 : Int32), (0 : Int32), (0 : Int32), (0 : Int32), (0 : Int32), (0 : Int32), (0 : Int32), (0 : Int32), (0 : Int32)] := A170
        show Run _ _ _ _ _ _ _ _ _ _ _ _ _ T170 (mkF m 548 #[.val (.int mk), .val (.int x1), .val (.int x2), .val (.int x3), .val (.int tl), .val (.int ps), .val (.int ch), .val (.ref x101), .val (.int sel), .unset, .unset, .unset, .unset, .unset] [(.ref x165), (.ref x164), (.ref x164)])
        have G170 := G169.keep K170 (ninS (neA (by omega)) nin0)
        have Q170 := Q169.keep K170 (ninS (neA (by omega)) nin0)
        refine Run.via (fun _ => XS.dup X170.at X170.ex rfl (X170.de at_548) rfl rfl) ?_
        show Run _ _ _ _ _ _ _ _ _ _ _ _ _ T170 (mkF m 549 #[.val (.int mk), .val (.int x1), .val (.int x2), .val (.int x3), .val (.int tl), .val (.int ps), .val (.int ch), .val (.ref x101), .val (.int sel), .unset, .unset, .unset, .unset, .unset] [(.ref x165), (.ref x165), (.ref x164), (.ref x164)])
        refine Run.via (fun _ => XS.iconst X170.at X170.ex rfl (X170.de at_549)) ?_
        show Run _ _ _ _ _ _ _ _ _ _ _ _ _ T170 (mkF m 550 #[.val (.int mk), .val (.int x1), .val (.int x2), .val (.int x3), .val (.int tl), .val (.int ps), .val (.int ch), .val (.ref x101), .val (.int sel), .unset, .unset, .unset, .unset, .unset] [(.int (5 : Int32)), (.ref x165), (.ref x165), (.ref x164), (.ref x164)])
        refine Run.via (fun _ => XS.aload X170.at X170.ex rfl (X170.de at_550) rfl rfl) ?_
        show Run _ _ _ _ _ _ _ _ _ _ _ _ _ T170 (mkF m 552 #[.val (.int mk), .val (.int x1), .val (.int x2), .val (.int x3), .val (.int tl), .val (.int ps), .val (.int ch), .val (.ref x101), .val (.int sel), .unset, .unset, .unset, .unset, .unset] [(.ref x101), (.int (5 : Int32)), (.ref x165), (.ref x165), (.ref x164), (.ref x164)])
        refine Run.via (fun _ => XS.iconst X170.at X170.ex rfl (X170.de at_552)) ?_
        show Run _ _ _ _ _ _ _ _ _ _ _ _ _ T170 (mkF m 553 #[.val (.int mk), .val (.int x1), .val (.int x2), .val (.int x3), .val (.int tl), .val (.int ps), .val (.int ch), .val (.ref x101), .val (.int sel), .unset, .unset, .unset, .unset, .unset] [(.int (5 : Int32)), (.ref x101), (.int (5 : Int32)), (.ref x165), (.ref x165), (.ref x164), (.ref x164)])
        refine Run.caload X170 (i := 5) Q170 rfl (Nat.le_of_ble_eq_true rfl) at_553 ?_
        show Run _ _ _ _ _ _ _ _ _ _ _ _ _ T170 (mkF m 554 #[.val (.int mk), .val (.int x1), .val (.int x2), .val (.int x3), .val (.int tl), .val (.int ps), .val (.int ch), .val (.ref x101), .val (.int sel), .unset, .unset, .unset, .unset, .unset] [(.int d5), (.int (5 : Int32)), (.ref x165), (.ref x165), (.ref x164), (.ref x164)])
        refine Run.castore X170 (i := 5) (v' := d5) A170 rfl (Nat.le_of_ble_eq_true rfl) (nar_lat t5.2.2) (Or.inr (by omega)) (by omega) at_554 ?_
        intro T171 h171 L171 X171 K171 z171 A171
        have A171 : Arc .char Z h171 x165 [d0, d1, d2, d3, d4, d5, (0 : Int32), (0 : Int32), (0 : Int32), (0 : Int32), (0 : Int32), (0 : Int32), (0 : Int32), (0 : Int32), (0 : Int32), (0 : Int32), (0 : Int32), (0 : Int32)] := A171
        show Run _ _ _ _ _ _ _ _ _ _ _ _ _ T171 (mkF m 555 #[.val (.int mk), .val (.int x1), .val (.int x2), .val (.int x3), .val (.int tl), .val (.int ps), .val (.int ch), .val (.ref x101), .val (.int sel), .unset, .unset, .unset, .unset, .unset] [(.ref x165), (.ref x164), (.ref x164)])
        have G171 := G170.keep K171 (ninS (neA (by omega)) nin0)
        have Q171 := Q170.keep K171 (ninS (neA (by omega)) nin0)
        refine Run.via (fun _ => XS.dup X171.at X171.ex rfl (X171.de at_555) rfl rfl) ?_
        show Run _ _ _ _ _ _ _ _ _ _ _ _ _ T171 (mkF m 556 #[.val (.int mk), .val (.int x1), .val (.int x2), .val (.int x3), .val (.int tl), .val (.int ps), .val (.int ch), .val (.ref x101), .val (.int sel), .unset, .unset, .unset, .unset, .unset] [(.ref x165), (.ref x165), (.ref x164), (.ref x164)])
        refine Run.via (fun _ => XS.bipush X171.at X171.ex rfl (X171.de at_556)) ?_
        show Run _ _ _ _ _ _ _ _ _ _ _ _ _ T171 (mkF m 558 #[.val (.int mk), .val (.int x1), .val (.int x2), .val (.int x3), .val (.int tl), .val (.int ps), .val (.int ch), .val (.ref x101), .val (.int sel), .unset, .unset, .unset, .unset, .unset] [(.int (6 : Int32)), (.ref x165), (.ref x165), (.ref x164), (.ref x164)])
        refine Run.via (fun _ => XS.aload X171.at X171.ex rfl (X171.de at_558) rfl rfl) ?_
        show Run _ _ _ _ _ _ _ _ _ _ _ _ _ T171 (mkF m 560 #[.val (.int mk), .val (.int x1), .val (.int x2), .val (.int x3), .val (.int tl), .val (.int ps), .val (.int ch), .val (.ref x101), .val (.int sel), .unset, .unset, .unset, .unset, .unset] [(.ref x101), (.int (6 : Int32)), (.ref x165), (.ref x165), (.ref x164), (.ref x164)])
        refine Run.via (fun _ => XS.bipush X171.at X171.ex rfl (X171.de at_560)) ?_
        show Run _ _ _ _ _ _ _ _ _ _ _ _ _ T171 (mkF m 562 #[.val (.int mk), .val (.int x1), .val (.int x2), .val (.int x3), .val (.int tl), .val (.int ps), .val (.int ch), .val (.ref x101), .val (.int sel), .unset, .unset, .unset, .unset, .unset] [(.int (6 : Int32)), (.ref x101), (.int (6 : Int32)), (.ref x165), (.ref x165), (.ref x164), (.ref x164)])
        refine Run.caload X171 (i := 6) Q171 rfl (Nat.le_of_ble_eq_true rfl) at_562 ?_
        show Run _ _ _ _ _ _ _ _ _ _ _ _ _ T171 (mkF m 563 #[.val (.int mk), .val (.int x1), .val (.int x2), .val (.int x3), .val (.int tl), .val (.int ps), .val (.int ch), .val (.ref x101), .val (.int sel), .unset, .unset, .unset, .unset, .unset] [(.int d6), (.int (6 : Int32)), (.ref x165), (.ref x165), (.ref x164), (.ref x164)])
        refine Run.castore X171 (i := 6) (v' := d6) A171 rfl (Nat.le_of_ble_eq_true rfl) (nar_lat t6.2.2) (Or.inr (by omega)) (by omega) at_563 ?_
        intro T172 h172 L172 X172 K172 z172 A172
        have A172 : Arc .char Z h172 x165 [d0, d1, d2, d3, d4, d5, d6, (0 : Int32), (0 : Int32), (0 : Int32), (0 : Int32), (0 : Int32), (0 : Int32), (0 : Int32), (0 : Int32), (0 : Int32), (0 : Int32), (0 : Int32)] := A172
        show Run _ _ _ _ _ _ _ _ _ _ _ _ _ T172 (mkF m 564 #[.val (.int mk), .val (.int x1), .val (.int x2), .val (.int x3), .val (.int tl), .val (.int ps), .val (.int ch), .val (.ref x101), .val (.int sel), .unset, .unset, .unset, .unset, .unset] [(.ref x165), (.ref x164), (.ref x164)])
        have G172 := G171.keep K172 (ninS (neA (by omega)) nin0)
        have Q172 := Q171.keep K172 (ninS (neA (by omega)) nin0)
        refine Run.via (fun _ => XS.dup X172.at X172.ex rfl (X172.de at_564) rfl rfl) ?_
        show Run _ _ _ _ _ _ _ _ _ _ _ _ _ T172 (mkF m 565 #[.val (.int mk), .val (.int x1), .val (.int x2), .val (.int x3), .val (.int tl), .val (.int ps), .val (.int ch), .val (.ref x101), .val (.int sel), .unset, .unset, .unset, .unset, .unset] [(.ref x165), (.ref x165), (.ref x164), (.ref x164)])
        refine Run.via (fun _ => XS.bipush X172.at X172.ex rfl (X172.de at_565)) ?_
        show Run _ _ _ _ _ _ _ _ _ _ _ _ _ T172 (mkF m 567 #[.val (.int mk), .val (.int x1), .val (.int x2), .val (.int x3), .val (.int tl), .val (.int ps), .val (.int ch), .val (.ref x101), .val (.int sel), .unset, .unset, .unset, .unset, .unset] [(.int (7 : Int32)), (.ref x165), (.ref x165), (.ref x164), (.ref x164)])
        refine Run.via (fun _ => XS.aload X172.at X172.ex rfl (X172.de at_567) rfl rfl) ?_
        show Run _ _ _ _ _ _ _ _ _ _ _ _ _ T172 (mkF m 569 #[.val (.int mk), .val (.int x1), .val (.int x2), .val (.int x3), .val (.int tl), .val (.int ps), .val (.int ch), .val (.ref x101), .val (.int sel), .unset, .unset, .unset, .unset, .unset] [(.ref x101), (.int (7 : Int32)), (.ref x165), (.ref x165), (.ref x164), (.ref x164)])
        refine Run.via (fun _ => XS.bipush X172.at X172.ex rfl (X172.de at_569)) ?_
        show Run _ _ _ _ _ _ _ _ _ _ _ _ _ T172 (mkF m 571 #[.val (.int mk), .val (.int x1), .val (.int x2), .val (.int x3), .val (.int tl), .val (.int ps), .val (.int ch), .val (.ref x101), .val (.int sel), .unset, .unset, .unset, .unset, .unset] [(.int (7 : Int32)), (.ref x101), (.int (7 : Int32)), (.ref x165), (.ref x165), (.ref x164), (.ref x164)])
        refine Run.caload X172 (i := 7) Q172 rfl (Nat.le_of_ble_eq_true rfl) at_571 ?_
        show Run _ _ _ _ _ _ _ _ _ _ _ _ _ T172 (mkF m 572 #[.val (.int mk), .val (.int x1), .val (.int x2), .val (.int x3), .val (.int tl), .val (.int ps), .val (.int ch), .val (.ref x101), .val (.int sel), .unset, .unset, .unset, .unset, .unset] [(.int d7), (.int (7 : Int32)), (.ref x165), (.ref x165), (.ref x164), (.ref x164)])
        refine Run.castore X172 (i := 7) (v' := d7) A172 rfl (Nat.le_of_ble_eq_true rfl) (nar_lat t7.2.2) (Or.inr (by omega)) (by omega) at_572 ?_
        intro T173 h173 L173 X173 K173 z173 A173
        have A173 : Arc .char Z h173 x165 [d0, d1, d2, d3, d4, d5, d6, d7, (0 : Int32), (0 : Int32), (0 : Int32), (0 : Int32), (0 : Int32), (0 : Int32), (0 : Int32), (0 : Int32), (0 : Int32), (0 : Int32)] := A173
        show Run _ _ _ _ _ _ _ _ _ _ _ _ _ T173 (mkF m 573 #[.val (.int mk), .val (.int x1), .val (.int x2), .val (.int x3), .val (.int tl), .val (.int ps), .val (.int ch), .val (.ref x101), .val (.int sel), .unset, .unset, .unset, .unset, .unset] [(.ref x165), (.ref x164), (.ref x164)])
        have G173 := G172.keep K173 (ninS (neA (by omega)) nin0)
        have Q173 := Q172.keep K173 (ninS (neA (by omega)) nin0)
        refine Run.via (fun _ => XS.dup X173.at X173.ex rfl (X173.de at_573) rfl rfl) ?_
        show Run _ _ _ _ _ _ _ _ _ _ _ _ _ T173 (mkF m 574 #[.val (.int mk), .val (.int x1), .val (.int x2), .val (.int x3), .val (.int tl), .val (.int ps), .val (.int ch), .val (.ref x101), .val (.int sel), .unset, .unset, .unset, .unset, .unset] [(.ref x165), (.ref x165), (.ref x164), (.ref x164)])
        refine Run.via (fun _ => XS.bipush X173.at X173.ex rfl (X173.de at_574)) ?_
        show Run _ _ _ _ _ _ _ _ _ _ _ _ _ T173 (mkF m 576 #[.val (.int mk), .val (.int x1), .val (.int x2), .val (.int x3), .val (.int tl), .val (.int ps), .val (.int ch), .val (.ref x101), .val (.int sel), .unset, .unset, .unset, .unset, .unset] [(.int (8 : Int32)), (.ref x165), (.ref x165), (.ref x164), (.ref x164)])
        refine Run.via (fun _ => XS.aload X173.at X173.ex rfl (X173.de at_576) rfl rfl) ?_
        show Run _ _ _ _ _ _ _ _ _ _ _ _ _ T173 (mkF m 578 #[.val (.int mk), .val (.int x1), .val (.int x2), .val (.int x3), .val (.int tl), .val (.int ps), .val (.int ch), .val (.ref x101), .val (.int sel), .unset, .unset, .unset, .unset, .unset] [(.ref x101), (.int (8 : Int32)), (.ref x165), (.ref x165), (.ref x164), (.ref x164)])
        refine Run.via (fun _ => XS.bipush X173.at X173.ex rfl (X173.de at_578)) ?_
        show Run _ _ _ _ _ _ _ _ _ _ _ _ _ T173 (mkF m 580 #[.val (.int mk), .val (.int x1), .val (.int x2), .val (.int x3), .val (.int tl), .val (.int ps), .val (.int ch), .val (.ref x101), .val (.int sel), .unset, .unset, .unset, .unset, .unset] [(.int (8 : Int32)), (.ref x101), (.int (8 : Int32)), (.ref x165), (.ref x165), (.ref x164), (.ref x164)])
        refine Run.caload X173 (i := 8) Q173 rfl (Nat.le_of_ble_eq_true rfl) at_580 ?_
        show Run _ _ _ _ _ _ _ _ _ _ _ _ _ T173 (mkF m 581 #[.val (.int mk), .val (.int x1), .val (.int x2), .val (.int x3), .val (.int tl), .val (.int ps), .val (.int ch), .val (.ref x101), .val (.int sel), .unset, .unset, .unset, .unset, .unset] [(.int d8), (.int (8 : Int32)), (.ref x165), (.ref x165), (.ref x164), (.ref x164)])
        refine Run.castore X173 (i := 8) (v' := d8) A173 rfl (Nat.le_of_ble_eq_true rfl) (nar_lat t8.2.2) (Or.inr (by omega)) (by omega) at_581 ?_
        intro T174 h174 L174 X174 K174 z174 A174
        have A174 : Arc .char Z h174 x165 [d0, d1, d2, d3, d4, d5, d6, d7, d8, (0 : Int32), (0 : Int32), (0 : Int32), (0 : Int32), (0 : Int32), (0 : Int32), (0 : Int32), (0 : Int32), (0 : Int32)] := A174
        show Run _ _ _ _ _ _ _ _ _ _ _ _ _ T174 (mkF m 582 #[.val (.int mk), .val (.int x1), .val (.int x2), .val (.int x3), .val (.int tl), .val (.int ps), .val (.int ch), .val (.ref x101), .val (.int sel), .unset, .unset, .unset, .unset, .unset] [(.ref x165), (.ref x164), (.ref x164)])
        have G174 := G173.keep K174 (ninS (neA (by omega)) nin0)
        have Q174 := Q173.keep K174 (ninS (neA (by omega)) nin0)
        refine Run.via (fun _ => XS.dup X174.at X174.ex rfl (X174.de at_582) rfl rfl) ?_
        show Run _ _ _ _ _ _ _ _ _ _ _ _ _ T174 (mkF m 583 #[.val (.int mk), .val (.int x1), .val (.int x2), .val (.int x3), .val (.int tl), .val (.int ps), .val (.int ch), .val (.ref x101), .val (.int sel), .unset, .unset, .unset, .unset, .unset] [(.ref x165), (.ref x165), (.ref x164), (.ref x164)])
        refine Run.via (fun _ => XS.bipush X174.at X174.ex rfl (X174.de at_583)) ?_
        show Run _ _ _ _ _ _ _ _ _ _ _ _ _ T174 (mkF m 585 #[.val (.int mk), .val (.int x1), .val (.int x2), .val (.int x3), .val (.int tl), .val (.int ps), .val (.int ch), .val (.ref x101), .val (.int sel), .unset, .unset, .unset, .unset, .unset] [(.int (9 : Int32)), (.ref x165), (.ref x165), (.ref x164), (.ref x164)])
        refine Run.via (fun _ => XS.aload X174.at X174.ex rfl (X174.de at_585) rfl rfl) ?_
        show Run _ _ _ _ _ _ _ _ _ _ _ _ _ T174 (mkF m 587 #[.val (.int mk), .val (.int x1), .val (.int x2), .val (.int x3), .val (.int tl), .val (.int ps), .val (.int ch), .val (.ref x101), .val (.int sel), .unset, .unset, .unset, .unset, .unset] [(.ref x101), (.int (9 : Int32)), (.ref x165), (.ref x165), (.ref x164), (.ref x164)])
        refine Run.via (fun _ => XS.bipush X174.at X174.ex rfl (X174.de at_587)) ?_
        show Run _ _ _ _ _ _ _ _ _ _ _ _ _ T174 (mkF m 589 #[.val (.int mk), .val (.int x1), .val (.int x2), .val (.int x3), .val (.int tl), .val (.int ps), .val (.int ch), .val (.ref x101), .val (.int sel), .unset, .unset, .unset, .unset, .unset] [(.int (9 : Int32)), (.ref x101), (.int (9 : Int32)), (.ref x165), (.ref x165), (.ref x164), (.ref x164)])
        refine Run.caload X174 (i := 9) Q174 rfl (Nat.le_of_ble_eq_true rfl) at_589 ?_
        show Run _ _ _ _ _ _ _ _ _ _ _ _ _ T174 (mkF m 590 #[.val (.int mk), .val (.int x1), .val (.int x2), .val (.int x3), .val (.int tl), .val (.int ps), .val (.int ch), .val (.ref x101), .val (.int sel), .unset, .unset, .unset, .unset, .unset] [(.int d9), (.int (9 : Int32)), (.ref x165), (.ref x165), (.ref x164), (.ref x164)])
        refine Run.castore X174 (i := 9) (v' := d9) A174 rfl (Nat.le_of_ble_eq_true rfl) (nar_lat t9.2.2) (Or.inr (by omega)) (by omega) at_590 ?_
        intro T175 h175 L175 X175 K175 z175 A175
        have A175 : Arc .char Z h175 x165 [d0, d1, d2, d3, d4, d5, d6, d7, d8, d9, (0 : Int32), (0 : Int32), (0 : Int32), (0 : Int32), (0 : Int32), (0 : Int32), (0 : Int32), (0 : Int32)] := A175
        show Run _ _ _ _ _ _ _ _ _ _ _ _ _ T175 (mkF m 591 #[.val (.int mk), .val (.int x1), .val (.int x2), .val (.int x3), .val (.int tl), .val (.int ps), .val (.int ch), .val (.ref x101), .val (.int sel), .unset, .unset, .unset, .unset, .unset] [(.ref x165), (.ref x164), (.ref x164)])
        have G175 := G174.keep K175 (ninS (neA (by omega)) nin0)
        have Q175 := Q174.keep K175 (ninS (neA (by omega)) nin0)
        refine Run.via (fun _ => XS.dup X175.at X175.ex rfl (X175.de at_591) rfl rfl) ?_
        show Run _ _ _ _ _ _ _ _ _ _ _ _ _ T175 (mkF m 592 #[.val (.int mk), .val (.int x1), .val (.int x2), .val (.int x3), .val (.int tl), .val (.int ps), .val (.int ch), .val (.ref x101), .val (.int sel), .unset, .unset, .unset, .unset, .unset] [(.ref x165), (.ref x165), (.ref x164), (.ref x164)])
        refine Run.via (fun _ => XS.bipush X175.at X175.ex rfl (X175.de at_592)) ?_
        show Run _ _ _ _ _ _ _ _ _ _ _ _ _ T175 (mkF m 594 #[.val (.int mk), .val (.int x1), .val (.int x2), .val (.int x3), .val (.int tl), .val (.int ps), .val (.int ch), .val (.ref x101), .val (.int sel), .unset, .unset, .unset, .unset, .unset] [(.int (10 : Int32)), (.ref x165), (.ref x165), (.ref x164), (.ref x164)])
        refine Run.via (fun _ => XS.aload X175.at X175.ex rfl (X175.de at_594) rfl rfl) ?_
        show Run _ _ _ _ _ _ _ _ _ _ _ _ _ T175 (mkF m 596 #[.val (.int mk), .val (.int x1), .val (.int x2), .val (.int x3), .val (.int tl), .val (.int ps), .val (.int ch), .val (.ref x101), .val (.int sel), .unset, .unset, .unset, .unset, .unset] [(.ref x101), (.int (10 : Int32)), (.ref x165), (.ref x165), (.ref x164), (.ref x164)])
        refine Run.via (fun _ => XS.bipush X175.at X175.ex rfl (X175.de at_596)) ?_
        show Run _ _ _ _ _ _ _ _ _ _ _ _ _ T175 (mkF m 598 #[.val (.int mk), .val (.int x1), .val (.int x2), .val (.int x3), .val (.int tl), .val (.int ps), .val (.int ch), .val (.ref x101), .val (.int sel), .unset, .unset, .unset, .unset, .unset] [(.int (10 : Int32)), (.ref x101), (.int (10 : Int32)), (.ref x165), (.ref x165), (.ref x164), (.ref x164)])
        refine Run.caload X175 (i := 10) Q175 rfl (Nat.le_of_ble_eq_true rfl) at_598 ?_
        show Run _ _ _ _ _ _ _ _ _ _ _ _ _ T175 (mkF m 599 #[.val (.int mk), .val (.int x1), .val (.int x2), .val (.int x3), .val (.int tl), .val (.int ps), .val (.int ch), .val (.ref x101), .val (.int sel), .unset, .unset, .unset, .unset, .unset] [(.int d10), (.int (10 : Int32)), (.ref x165), (.ref x165), (.ref x164), (.ref x164)])
        refine Run.castore X175 (i := 10) (v' := d10) A175 rfl (Nat.le_of_ble_eq_true rfl) (nar_lat t10.2.2) (Or.inr (by omega)) (by omega) at_599 ?_
        intro T176 h176 L176 X176 K176 z176 A176
        have A176 : Arc .char Z h176 x165 [d0, d1, d2, d3, d4, d5, d6, d7, d8, d9, d10, (0 : Int32), (0 : Int32), (0 : Int32), (0 : Int32), (0 : Int32), (0 : Int32), (0 : Int32)] := A176
        show Run _ _ _ _ _ _ _ _ _ _ _ _ _ T176 (mkF m 600 #[.val (.int mk), .val (.int x1), .val (.int x2), .val (.int x3), .val (.int tl), .val (.int ps), .val (.int ch), .val (.ref x101), .val (.int sel), .unset, .unset, .unset, .unset, .unset] [(.ref x165), (.ref x164), (.ref x164)])
        have G176 := G175.keep K176 (ninS (neA (by omega)) nin0)
        have Q176 := Q175.keep K176 (ninS (neA (by omega)) nin0)
        refine Run.via (fun _ => XS.dup X176.at X176.ex rfl (X176.de at_600) rfl rfl) ?_
        show Run _ _ _ _ _ _ _ _ _ _ _ _ _ T176 (mkF m 601 #[.val (.int mk), .val (.int x1), .val (.int x2), .val (.int x3), .val (.int tl), .val (.int ps), .val (.int ch), .val (.ref x101), .val (.int sel), .unset, .unset, .unset, .unset, .unset] [(.ref x165), (.ref x165), (.ref x164), (.ref x164)])
        refine Run.via (fun _ => XS.bipush X176.at X176.ex rfl (X176.de at_601)) ?_
        show Run _ _ _ _ _ _ _ _ _ _ _ _ _ T176 (mkF m 603 #[.val (.int mk), .val (.int x1), .val (.int x2), .val (.int x3), .val (.int tl), .val (.int ps), .val (.int ch), .val (.ref x101), .val (.int sel), .unset, .unset, .unset, .unset, .unset] [(.int (11 : Int32)), (.ref x165), (.ref x165), (.ref x164), (.ref x164)])
        refine Run.via (fun _ => XS.aload X176.at X176.ex rfl (X176.de at_603) rfl rfl) ?_
        show Run _ _ _ _ _ _ _ _ _ _ _ _ _ T176 (mkF m 605 #[.val (.int mk), .val (.int x1), .val (.int x2), .val (.int x3), .val (.int tl), .val (.int ps), .val (.int ch), .val (.ref x101), .val (.int sel), .unset, .unset, .unset, .unset, .unset] [(.ref x101), (.int (11 : Int32)), (.ref x165), (.ref x165), (.ref x164), (.ref x164)])
        refine Run.via (fun _ => XS.bipush X176.at X176.ex rfl (X176.de at_605)) ?_
        show Run _ _ _ _ _ _ _ _ _ _ _ _ _ T176 (mkF m 607 #[.val (.int mk), .val (.int x1), .val (.int x2), .val (.int x3), .val (.int tl), .val (.int ps), .val (.int ch), .val (.ref x101), .val (.int sel), .unset, .unset, .unset, .unset, .unset] [(.int (11 : Int32)), (.ref x101), (.int (11 : Int32)), (.ref x165), (.ref x165), (.ref x164), (.ref x164)])
        refine Run.caload X176 (i := 11) Q176 rfl (Nat.le_of_ble_eq_true rfl) at_607 ?_
        show Run _ _ _ _ _ _ _ _ _ _ _ _ _ T176 (mkF m 608 #[.val (.int mk), .val (.int x1), .val (.int x2), .val (.int x3), .val (.int tl), .val (.int ps), .val (.int ch), .val (.ref x101), .val (.int sel), .unset, .unset, .unset, .unset, .unset] [(.int d11), (.int (11 : Int32)), (.ref x165), (.ref x165), (.ref x164), (.ref x164)])
        refine Run.castore X176 (i := 11) (v' := d11) A176 rfl (Nat.le_of_ble_eq_true rfl) (nar_lat t11.2.2) (Or.inr (by omega)) (by omega) at_608 ?_
        intro T177 h177 L177 X177 K177 z177 A177
        have A177 : Arc .char Z h177 x165 [d0, d1, d2, d3, d4, d5, d6, d7, d8, d9, d10, d11, (0 : Int32), (0 : Int32), (0 : Int32), (0 : Int32), (0 : Int32), (0 : Int32)] := A177
        show Run _ _ _ _ _ _ _ _ _ _ _ _ _ T177 (mkF m 609 #[.val (.int mk), .val (.int x1), .val (.int x2), .val (.int x3), .val (.int tl), .val (.int ps), .val (.int ch), .val (.ref x101), .val (.int sel), .unset, .unset, .unset, .unset, .unset] [(.ref x165), (.ref x164), (.ref x164)])
        have G177 := G176.keep K177 (ninS (neA (by omega)) nin0)
        have Q177 := Q176.keep K177 (ninS (neA (by omega)) nin0)
        refine Run.via (fun _ => XS.dup X177.at X177.ex rfl (X177.de at_609) rfl rfl) ?_
        show Run _ _ _ _ _ _ _ _ _ _ _ _ _ T177 (mkF m 610 #[.val (.int mk), .val (.int x1), .val (.int x2), .val (.int x3), .val (.int tl), .val (.int ps), .val (.int ch), .val (.ref x101), .val (.int sel), .unset, .unset, .unset, .unset, .unset] [(.ref x165), (.ref x165), (.ref x164), (.ref x164)])
        refine Run.via (fun _ => XS.bipush X177.at X177.ex rfl (X177.de at_610)) ?_
        show Run _ _ _ _ _ _ _ _ _ _ _ _ _ T177 (mkF m 612 #[.val (.int mk), .val (.int x1), .val (.int x2), .val (.int x3), .val (.int tl), .val (.int ps), .val (.int ch), .val (.ref x101), .val (.int sel), .unset, .unset, .unset, .unset, .unset] [(.int (12 : Int32)), (.ref x165), (.ref x165), (.ref x164), (.ref x164)])
        refine Run.via (fun _ => XS.aload X177.at X177.ex rfl (X177.de at_612) rfl rfl) ?_
        show Run _ _ _ _ _ _ _ _ _ _ _ _ _ T177 (mkF m 614 #[.val (.int mk), .val (.int x1), .val (.int x2), .val (.int x3), .val (.int tl), .val (.int ps), .val (.int ch), .val (.ref x101), .val (.int sel), .unset, .unset, .unset, .unset, .unset] [(.ref x101), (.int (12 : Int32)), (.ref x165), (.ref x165), (.ref x164), (.ref x164)])
        refine Run.via (fun _ => XS.bipush X177.at X177.ex rfl (X177.de at_614)) ?_
        show Run _ _ _ _ _ _ _ _ _ _ _ _ _ T177 (mkF m 616 #[.val (.int mk), .val (.int x1), .val (.int x2), .val (.int x3), .val (.int tl), .val (.int ps), .val (.int ch), .val (.ref x101), .val (.int sel), .unset, .unset, .unset, .unset, .unset] [(.int (12 : Int32)), (.ref x101), (.int (12 : Int32)), (.ref x165), (.ref x165), (.ref x164), (.ref x164)])
        refine Run.caload X177 (i := 12) Q177 rfl (Nat.le_of_ble_eq_true rfl) at_616 ?_
        show Run _ _ _ _ _ _ _ _ _ _ _ _ _ T177 (mkF m 617 #[.val (.int mk), .val (.int x1), .val (.int x2), .val (.int x3), .val (.int tl), .val (.int ps), .val (.int ch), .val (.ref x101), .val (.int sel), .unset, .unset, .unset, .unset, .unset] [(.int d12), (.int (12 : Int32)), (.ref x165), (.ref x165), (.ref x164), (.ref x164)])
        refine Run.castore X177 (i := 12) (v' := d12) A177 rfl (Nat.le_of_ble_eq_true rfl) (nar_lat t12.2.2) (Or.inr (by omega)) (by omega) at_617 ?_
        intro T178 h178 L178 X178 K178 z178 A178
        have A178 : Arc .char Z h178 x165 [d0, d1, d2, d3, d4, d5, d6, d7, d8, d9, d10, d11, d12, (0 : Int32), (0 : Int32), (0 : Int32), (0 : Int32), (0 : Int32)] := A178
        show Run _ _ _ _ _ _ _ _ _ _ _ _ _ T178 (mkF m 618 #[.val (.int mk), .val (.int x1), .val (.int x2), .val (.int x3), .val (.int tl), .val (.int ps), .val (.int ch), .val (.ref x101), .val (.int sel), .unset, .unset, .unset, .unset, .unset] [(.ref x165), (.ref x164), (.ref x164)])
        have G178 := G177.keep K178 (ninS (neA (by omega)) nin0)
        have Q178 := Q177.keep K178 (ninS (neA (by omega)) nin0)
        refine Run.via (fun _ => XS.dup X178.at X178.ex rfl (X178.de at_618) rfl rfl) ?_
        show Run _ _ _ _ _ _ _ _ _ _ _ _ _ T178 (mkF m 619 #[.val (.int mk), .val (.int x1), .val (.int x2), .val (.int x3), .val (.int tl), .val (.int ps), .val (.int ch), .val (.ref x101), .val (.int sel), .unset, .unset, .unset, .unset, .unset] [(.ref x165), (.ref x165), (.ref x164), (.ref x164)])
        refine Run.via (fun _ => XS.bipush X178.at X178.ex rfl (X178.de at_619)) ?_
        show Run _ _ _ _ _ _ _ _ _ _ _ _ _ T178 (mkF m 621 #[.val (.int mk), .val (.int x1), .val (.int x2), .val (.int x3), .val (.int tl), .val (.int ps), .val (.int ch), .val (.ref x101), .val (.int sel), .unset, .unset, .unset, .unset, .unset] [(.int (13 : Int32)), (.ref x165), (.ref x165), (.ref x164), (.ref x164)])
        refine Run.via (fun _ => XS.aload X178.at X178.ex rfl (X178.de at_621) rfl rfl) ?_
        show Run _ _ _ _ _ _ _ _ _ _ _ _ _ T178 (mkF m 623 #[.val (.int mk), .val (.int x1), .val (.int x2), .val (.int x3), .val (.int tl), .val (.int ps), .val (.int ch), .val (.ref x101), .val (.int sel), .unset, .unset, .unset, .unset, .unset] [(.ref x101), (.int (13 : Int32)), (.ref x165), (.ref x165), (.ref x164), (.ref x164)])
        refine Run.via (fun _ => XS.bipush X178.at X178.ex rfl (X178.de at_623)) ?_
        show Run _ _ _ _ _ _ _ _ _ _ _ _ _ T178 (mkF m 625 #[.val (.int mk), .val (.int x1), .val (.int x2), .val (.int x3), .val (.int tl), .val (.int ps), .val (.int ch), .val (.ref x101), .val (.int sel), .unset, .unset, .unset, .unset, .unset] [(.int (13 : Int32)), (.ref x101), (.int (13 : Int32)), (.ref x165), (.ref x165), (.ref x164), (.ref x164)])
        refine Run.caload X178 (i := 13) Q178 rfl (Nat.le_of_ble_eq_true rfl) at_625 ?_
        show Run _ _ _ _ _ _ _ _ _ _ _ _ _ T178 (mkF m 626 #[.val (.int mk), .val (.int x1), .val (.int x2), .val (.int x3), .val (.int tl), .val (.int ps), .val (.int ch), .val (.ref x101), .val (.int sel), .unset, .unset, .unset, .unset, .unset] [(.int d13), (.int (13 : Int32)), (.ref x165), (.ref x165), (.ref x164), (.ref x164)])
        refine Run.castore X178 (i := 13) (v' := d13) A178 rfl (Nat.le_of_ble_eq_true rfl) (nar_lat t13.2.2) (Or.inr (by omega)) (by omega) at_626 ?_
        intro T179 h179 L179 X179 K179 z179 A179
        have A179 : Arc .char Z h179 x165 [d0, d1, d2, d3, d4, d5, d6, d7, d8, d9, d10, d11, d12, d13, (0 : Int32), (0 : Int32), (0 : Int32), (0 : Int32)] := A179
        show Run _ _ _ _ _ _ _ _ _ _ _ _ _ T179 (mkF m 627 #[.val (.int mk), .val (.int x1), .val (.int x2), .val (.int x3), .val (.int tl), .val (.int ps), .val (.int ch), .val (.ref x101), .val (.int sel), .unset, .unset, .unset, .unset, .unset] [(.ref x165), (.ref x164), (.ref x164)])
        have G179 := G178.keep K179 (ninS (neA (by omega)) nin0)
        have Q179 := Q178.keep K179 (ninS (neA (by omega)) nin0)
        refine Run.via (fun _ => XS.dup X179.at X179.ex rfl (X179.de at_627) rfl rfl) ?_
        show Run _ _ _ _ _ _ _ _ _ _ _ _ _ T179 (mkF m 628 #[.val (.int mk), .val (.int x1), .val (.int x2), .val (.int x3), .val (.int tl), .val (.int ps), .val (.int ch), .val (.ref x101), .val (.int sel), .unset, .unset, .unset, .unset, .unset] [(.ref x165), (.ref x165), (.ref x164), (.ref x164)])
        refine Run.via (fun _ => XS.bipush X179.at X179.ex rfl (X179.de at_628)) ?_
        show Run _ _ _ _ _ _ _ _ _ _ _ _ _ T179 (mkF m 630 #[.val (.int mk), .val (.int x1), .val (.int x2), .val (.int x3), .val (.int tl), .val (.int ps), .val (.int ch), .val (.ref x101), .val (.int sel), .unset, .unset, .unset, .unset, .unset] [(.int (14 : Int32)), (.ref x165), (.ref x165), (.ref x164), (.ref x164)])
        refine Run.via (fun _ => XS.aload X179.at X179.ex rfl (X179.de at_630) rfl rfl) ?_
        show Run _ _ _ _ _ _ _ _ _ _ _ _ _ T179 (mkF m 632 #[.val (.int mk), .val (.int x1), .val (.int x2), .val (.int x3), .val (.int tl), .val (.int ps), .val (.int ch), .val (.ref x101), .val (.int sel), .unset, .unset, .unset, .unset, .unset] [(.ref x101), (.int (14 : Int32)), (.ref x165), (.ref x165), (.ref x164), (.ref x164)])
        refine Run.via (fun _ => XS.bipush X179.at X179.ex rfl (X179.de at_632)) ?_
        show Run _ _ _ _ _ _ _ _ _ _ _ _ _ T179 (mkF m 634 #[.val (.int mk), .val (.int x1), .val (.int x2), .val (.int x3), .val (.int tl), .val (.int ps), .val (.int ch), .val (.ref x101), .val (.int sel), .unset, .unset, .unset, .unset, .unset] [(.int (14 : Int32)), (.ref x101), (.int (14 : Int32)), (.ref x165), (.ref x165), (.ref x164), (.ref x164)])
        refine Run.caload X179 (i := 14) Q179 rfl (Nat.le_of_ble_eq_true rfl) at_634 ?_
        show Run _ _ _ _ _ _ _ _ _ _ _ _ _ T179 (mkF m 635 #[.val (.int mk), .val (.int x1), .val (.int x2), .val (.int x3), .val (.int tl), .val (.int ps), .val (.int ch), .val (.ref x101), .val (.int sel), .unset, .unset, .unset, .unset, .unset] [(.int d14), (.int (14 : Int32)), (.ref x165), (.ref x165), (.ref x164), (.ref x164)])
        refine Run.castore X179 (i := 14) (v' := d14) A179 rfl (Nat.le_of_ble_eq_true rfl) (nar_lat t14.2.2) (Or.inr (by omega)) (by omega) at_635 ?_
        intro T180 h180 L180 X180 K180 z180 A180
        have A180 : Arc .char Z h180 x165 [d0, d1, d2, d3, d4, d5, d6, d7, d8, d9, d10, d11, d12, d13, d14, (0 : Int32), (0 : Int32), (0 : Int32)] := A180
        show Run _ _ _ _ _ _ _ _ _ _ _ _ _ T180 (mkF m 636 #[.val (.int mk), .val (.int x1), .val (.int x2), .val (.int x3), .val (.int tl), .val (.int ps), .val (.int ch), .val (.ref x101), .val (.int sel), .unset, .unset, .unset, .unset, .unset] [(.ref x165), (.ref x164), (.ref x164)])
        have G180 := G179.keep K180 (ninS (neA (by omega)) nin0)
        have Q180 := Q179.keep K180 (ninS (neA (by omega)) nin0)
        refine Run.via (fun _ => XS.dup X180.at X180.ex rfl (X180.de at_636) rfl rfl) ?_
        show Run _ _ _ _ _ _ _ _ _ _ _ _ _ T180 (mkF m 637 #[.val (.int mk), .val (.int x1), .val (.int x2), .val (.int x3), .val (.int tl), .val (.int ps), .val (.int ch), .val (.ref x101), .val (.int sel), .unset, .unset, .unset, .unset, .unset] [(.ref x165), (.ref x165), (.ref x164), (.ref x164)])
        refine Run.via (fun _ => XS.bipush X180.at X180.ex rfl (X180.de at_637)) ?_
        show Run _ _ _ _ _ _ _ _ _ _ _ _ _ T180 (mkF m 639 #[.val (.int mk), .val (.int x1), .val (.int x2), .val (.int x3), .val (.int tl), .val (.int ps), .val (.int ch), .val (.ref x101), .val (.int sel), .unset, .unset, .unset, .unset, .unset] [(.int (15 : Int32)), (.ref x165), (.ref x165), (.ref x164), (.ref x164)])
        refine Run.via (fun _ => XS.aload X180.at X180.ex rfl (X180.de at_639) rfl rfl) ?_
        show Run _ _ _ _ _ _ _ _ _ _ _ _ _ T180 (mkF m 641 #[.val (.int mk), .val (.int x1), .val (.int x2), .val (.int x3), .val (.int tl), .val (.int ps), .val (.int ch), .val (.ref x101), .val (.int sel), .unset, .unset, .unset, .unset, .unset] [(.ref x101), (.int (15 : Int32)), (.ref x165), (.ref x165), (.ref x164), (.ref x164)])
        refine Run.via (fun _ => XS.bipush X180.at X180.ex rfl (X180.de at_641)) ?_
        show Run _ _ _ _ _ _ _ _ _ _ _ _ _ T180 (mkF m 643 #[.val (.int mk), .val (.int x1), .val (.int x2), .val (.int x3), .val (.int tl), .val (.int ps), .val (.int ch), .val (.ref x101), .val (.int sel), .unset, .unset, .unset, .unset, .unset] [(.int (15 : Int32)), (.ref x101), (.int (15 : Int32)), (.ref x165), (.ref x165), (.ref x164), (.ref x164)])
        refine Run.caload X180 (i := 15) Q180 rfl (Nat.le_of_ble_eq_true rfl) at_643 ?_
        show Run _ _ _ _ _ _ _ _ _ _ _ _ _ T180 (mkF m 644 #[.val (.int mk), .val (.int x1), .val (.int x2), .val (.int x3), .val (.int tl), .val (.int ps), .val (.int ch), .val (.ref x101), .val (.int sel), .unset, .unset, .unset, .unset, .unset] [(.int d15), (.int (15 : Int32)), (.ref x165), (.ref x165), (.ref x164), (.ref x164)])
        refine Run.castore X180 (i := 15) (v' := d15) A180 rfl (Nat.le_of_ble_eq_true rfl) (nar_lat t15.2.2) (Or.inr (by omega)) (by omega) at_644 ?_
        intro T181 h181 L181 X181 K181 z181 A181
        have A181 : Arc .char Z h181 x165 [d0, d1, d2, d3, d4, d5, d6, d7, d8, d9, d10, d11, d12, d13, d14, d15, (0 : Int32), (0 : Int32)] := A181
        show Run _ _ _ _ _ _ _ _ _ _ _ _ _ T181 (mkF m 645 #[.val (.int mk), .val (.int x1), .val (.int x2), .val (.int x3), .val (.int tl), .val (.int ps), .val (.int ch), .val (.ref x101), .val (.int sel), .unset, .unset, .unset, .unset, .unset] [(.ref x165), (.ref x164), (.ref x164)])
        have G181 := G180.keep K181 (ninS (neA (by omega)) nin0)
        have Q181 := Q180.keep K181 (ninS (neA (by omega)) nin0)
        refine Run.via (fun _ => XS.dup X181.at X181.ex rfl (X181.de at_645) rfl rfl) ?_
        show Run _ _ _ _ _ _ _ _ _ _ _ _ _ T181 (mkF m 646 #[.val (.int mk), .val (.int x1), .val (.int x2), .val (.int x3), .val (.int tl), .val (.int ps), .val (.int ch), .val (.ref x101), .val (.int sel), .unset, .unset, .unset, .unset, .unset] [(.ref x165), (.ref x165), (.ref x164), (.ref x164)])
        refine Run.via (fun _ => XS.bipush X181.at X181.ex rfl (X181.de at_646)) ?_
        show Run _ _ _ _ _ _ _ _ _ _ _ _ _ T181 (mkF m 648 #[.val (.int mk), .val (.int x1), .val (.int x2), .val (.int x3), .val (.int tl), .val (.int ps), .val (.int ch), .val (.ref x101), .val (.int sel), .unset, .unset, .unset, .unset, .unset] [(.int (16 : Int32)), (.ref x165), (.ref x165), (.ref x164), (.ref x164)])
        refine Run.via (fun _ => XS.aload X181.at X181.ex rfl (X181.de at_648) rfl rfl) ?_
        show Run _ _ _ _ _ _ _ _ _ _ _ _ _ T181 (mkF m 650 #[.val (.int mk), .val (.int x1), .val (.int x2), .val (.int x3), .val (.int tl), .val (.int ps), .val (.int ch), .val (.ref x101), .val (.int sel), .unset, .unset, .unset, .unset, .unset] [(.ref x101), (.int (16 : Int32)), (.ref x165), (.ref x165), (.ref x164), (.ref x164)])
        refine Run.via (fun _ => XS.bipush X181.at X181.ex rfl (X181.de at_650)) ?_
        show Run _ _ _ _ _ _ _ _ _ _ _ _ _ T181 (mkF m 652 #[.val (.int mk), .val (.int x1), .val (.int x2), .val (.int x3), .val (.int tl), .val (.int ps), .val (.int ch), .val (.ref x101), .val (.int sel), .unset, .unset, .unset, .unset, .unset] [(.int (16 : Int32)), (.ref x101), (.int (16 : Int32)), (.ref x165), (.ref x165), (.ref x164), (.ref x164)])
        refine Run.caload X181 (i := 16) Q181 rfl (Nat.le_of_ble_eq_true rfl) at_652 ?_
        show Run _ _ _ _ _ _ _ _ _ _ _ _ _ T181 (mkF m 653 #[.val (.int mk), .val (.int x1), .val (.int x2), .val (.int x3), .val (.int tl), .val (.int ps), .val (.int ch), .val (.ref x101), .val (.int sel), .unset, .unset, .unset, .unset, .unset] [(.int d16), (.int (16 : Int32)), (.ref x165), (.ref x165), (.ref x164), (.ref x164)])
        refine Run.castore X181 (i := 16) (v' := d16) A181 rfl (Nat.le_of_ble_eq_true rfl) (nar_lat t16.2.2) (Or.inr (by omega)) (by omega) at_653 ?_
        intro T182 h182 L182 X182 K182 z182 A182
        have A182 : Arc .char Z h182 x165 [d0, d1, d2, d3, d4, d5, d6, d7, d8, d9, d10, d11, d12, d13, d14, d15, d16, (0 : Int32)] := A182
        show Run _ _ _ _ _ _ _ _ _ _ _ _ _ T182 (mkF m 654 #[.val (.int mk), .val (.int x1), .val (.int x2), .val (.int x3), .val (.int tl), .val (.int ps), .val (.int ch), .val (.ref x101), .val (.int sel), .unset, .unset, .unset, .unset, .unset] [(.ref x165), (.ref x164), (.ref x164)])
        have G182 := G181.keep K182 (ninS (neA (by omega)) nin0)
        have Q182 := Q181.keep K182 (ninS (neA (by omega)) nin0)
        refine Run.via (fun _ => XS.dup X182.at X182.ex rfl (X182.de at_654) rfl rfl) ?_
        show Run _ _ _ _ _ _ _ _ _ _ _ _ _ T182 (mkF m 655 #[.val (.int mk), .val (.int x1), .val (.int x2), .val (.int x3), .val (.int tl), .val (.int ps), .val (.int ch), .val (.ref x101), .val (.int sel), .unset, .unset, .unset, .unset, .unset] [(.ref x165), (.ref x165), (.ref x164), (.ref x164)])
        refine Run.via (fun _ => XS.bipush X182.at X182.ex rfl (X182.de at_655)) ?_
        show Run _ _ _ _ _ _ _ _ _ _ _ _ _ T182 (mkF m 657 #[.val (.int mk), .val (.int x1), .val (.int x2), .val (.int x3), .val (.int tl), .val (.int ps), .val (.int ch), .val (.ref x101), .val (.int sel), .unset, .unset, .unset, .unset, .unset] [(.int (17 : Int32)), (.ref x165), (.ref x165), (.ref x164), (.ref x164)])
        refine Run.via (fun _ => XS.aload X182.at X182.ex rfl (X182.de at_657) rfl rfl) ?_
        show Run _ _ _ _ _ _ _ _ _ _ _ _ _ T182 (mkF m 659 #[.val (.int mk), .val (.int x1), .val (.int x2), .val (.int x3), .val (.int tl), .val (.int ps), .val (.int ch), .val (.ref x101), .val (.int sel), .unset, .unset, .unset, .unset, .unset] [(.ref x101), (.int (17 : Int32)), (.ref x165), (.ref x165), (.ref x164), (.ref x164)])
        refine Run.via (fun _ => XS.bipush X182.at X182.ex rfl (X182.de at_659)) ?_
        show Run _ _ _ _ _ _ _ _ _ _ _ _ _ T182 (mkF m 661 #[.val (.int mk), .val (.int x1), .val (.int x2), .val (.int x3), .val (.int tl), .val (.int ps), .val (.int ch), .val (.ref x101), .val (.int sel), .unset, .unset, .unset, .unset, .unset] [(.int (17 : Int32)), (.ref x101), (.int (17 : Int32)), (.ref x165), (.ref x165), (.ref x164), (.ref x164)])
        refine Run.caload X182 (i := 17) Q182 rfl (Nat.le_of_ble_eq_true rfl) at_661 ?_
        show Run _ _ _ _ _ _ _ _ _ _ _ _ _ T182 (mkF m 662 #[.val (.int mk), .val (.int x1), .val (.int x2), .val (.int x3), .val (.int tl), .val (.int ps), .val (.int ch), .val (.ref x101), .val (.int sel), .unset, .unset, .unset, .unset, .unset] [(.int d17), (.int (17 : Int32)), (.ref x165), (.ref x165), (.ref x164), (.ref x164)])
        refine Run.castore X182 (i := 17) (v' := d17) A182 rfl (Nat.le_of_ble_eq_true rfl) (nar_lat t17.2.2) (Or.inr (by omega)) (by omega) at_662 ?_
        intro T183 h183 L183 X183 K183 z183 A183
        have A183 : Arc .char Z h183 x165 [d0, d1, d2, d3, d4, d5, d6, d7, d8, d9, d10, d11, d12, d13, d14, d15, d16, d17] := A183
        show Run _ _ _ _ _ _ _ _ _ _ _ _ _ T183 (mkF m 663 #[.val (.int mk), .val (.int x1), .val (.int x2), .val (.int x3), .val (.int tl), .val (.int ps), .val (.int ch), .val (.ref x101), .val (.int sel), .unset, .unset, .unset, .unset, .unset] [(.ref x165), (.ref x164), (.ref x164)])
        have G183 := G182.keep K183 (ninS (neA (by omega)) nin0)
        have Q183 := Q182.keep K183 (ninS (neA (by omega)) nin0)
        have hcs184 : ∀ c ∈ ([d0, d1, d2, d3, d4, d5, d6, d7, d8, d9, d10, d11, d12, d13, d14, d15, d16, d17] : List Int32), ¬ c < 0 ∧ ¬ (255 : Int32) < c := lsS t0.2.2 (lsS t1.2.2 (lsS t2.2.2 (lsS t3.2.2 (lsS t4.2.2 (lsS t5.2.2 (lsS t6.2.2 (lsS t7.2.2 (lsS t8.2.2 (lsS t9.2.2 (lsS t10.2.2 (lsS t11.2.2 (lsS t12.2.2 (lsS t13.2.2 (lsS t14.2.2 (lsS t15.2.2 (lsS t16.2.2 (lsS t17.2.2 (ls0))))))))))))))))))
        refine Run.initStr hw hS X183 (cs := [d0, d1, d2, d3, d4, d5, d6, d7, d8, d9, d10, d11, d12, d13, d14, d15, d16, d17]) (W := 1) G183 A183 hcs184 (Nat.le_of_ble_eq_true rfl) (wd hw 42 rfl) (wd hw 43 rfl) (wd hw 10 rfl) at_663 rfl (Or.inr (by omega)) (by omega) (by simp) (Nat.le_of_ble_eq_true rfl) (by decide) (by decide) (Nat.le_of_ble_eq_true rfl) (Nat.le_of_ble_eq_true rfl) ?_
        intro T184 h184 L184 X184 K184 S184
        show Run _ _ _ _ _ _ _ _ _ _ _ _ _ T184 (mkF m 666 #[.val (.int mk), .val (.int x1), .val (.int x2), .val (.int x3), .val (.int tl), .val (.int ps), .val (.int ch), .val (.ref x101), .val (.int sel), .unset, .unset, .unset, .unset, .unset] [(.ref x164)])
        have KK0 := K164
        have KK1 := KK0.trans K165 (fun z hz => by first | (cases hz; done) | (cases List.mem_singleton.mp hz; exact Or.inr (by omega)))
        have KK2 := KK1.trans K166 (fun z hz => by first | (cases hz; done) | (cases List.mem_singleton.mp hz; exact Or.inr (by omega)))
        have KK3 := KK2.trans K167 (fun z hz => by first | (cases hz; done) | (cases List.mem_singleton.mp hz; exact Or.inr (by omega)))
        have KK4 := KK3.trans K168 (fun z hz => by first | (cases hz; done) | (cases List.mem_singleton.mp hz; exact Or.inr (by omega)))
        have KK5 := KK4.trans K169 (fun z hz => by first | (cases hz; done) | (cases List.mem_singleton.mp hz; exact Or.inr (by omega)))
        have KK6 := KK5.trans K170 (fun z hz => by first | (cases hz; done) | (cases List.mem_singleton.mp hz; exact Or.inr (by omega)))
        have KK7 := KK6.trans K171 (fun z hz => by first | (cases hz; done) | (cases List.mem_singleton.mp hz; exact Or.inr (by omega)))
        have KK8 := KK7.trans K172 (fun z hz => by first | (cases hz; done) | (cases List.mem_singleton.mp hz; exact Or.inr (by omega)))
        have KK9 := KK8.trans K173 (fun z hz => by first | (cases hz; done) | (cases List.mem_singleton.mp hz; exact Or.inr (by omega)))
        have KK10 := KK9.trans K174 (fun z hz => by first | (cases hz; done) | (cases List.mem_singleton.mp hz; exact Or.inr (by omega)))
        have KK11 := KK10.trans K175 (fun z hz => by first | (cases hz; done) | (cases List.mem_singleton.mp hz; exact Or.inr (by omega)))
        have KK12 := KK11.trans K176 (fun z hz => by first | (cases hz; done) | (cases List.mem_singleton.mp hz; exact Or.inr (by omega)))
        have KK13 := KK12.trans K177 (fun z hz => by first | (cases hz; done) | (cases List.mem_singleton.mp hz; exact Or.inr (by omega)))
        have KK14 := KK13.trans K178 (fun z hz => by first | (cases hz; done) | (cases List.mem_singleton.mp hz; exact Or.inr (by omega)))
        have KK15 := KK14.trans K179 (fun z hz => by first | (cases hz; done) | (cases List.mem_singleton.mp hz; exact Or.inr (by omega)))
        have KK16 := KK15.trans K180 (fun z hz => by first | (cases hz; done) | (cases List.mem_singleton.mp hz; exact Or.inr (by omega)))
        have KK17 := KK16.trans K181 (fun z hz => by first | (cases hz; done) | (cases List.mem_singleton.mp hz; exact Or.inr (by omega)))
        have KK18 := KK17.trans K182 (fun z hz => by first | (cases hz; done) | (cases List.mem_singleton.mp hz; exact Or.inr (by omega)))
        have KK19 := KK18.trans K183 (fun z hz => by first | (cases hz; done) | (cases List.mem_singleton.mp hz; exact Or.inr (by omega)))
        have KK20 := KK19.trans K184 (fun z hz => by first | (cases hz; done) | (cases List.mem_singleton.mp hz; exact Or.inr (by omega)))
        refine Run.via (fun _ => XS.astore X184.at X184.ex rfl (X184.de at_666) rfl rfl (l' := #[.val (.int mk), .val (.int x1), .val (.int x2), .val (.int x3), .val (.int tl), .val (.int ps), .val (.int ch), .val (.ref x101), .val (.int sel), .val (.ref x164), .unset, .unset, .unset, .unset]) rfl) ?_
        show Run _ _ _ _ _ _ _ _ _ _ _ _ _ T184 (mkF m 668 #[.val (.int mk), .val (.int x1), .val (.int x2), .val (.int x3), .val (.int tl), .val (.int ps), .val (.int ch), .val (.ref x101), .val (.int sel), .val (.ref x164), .unset, .unset, .unset, .unset] [])
        refine Run.via (fun _ => XS.bipush X184.at X184.ex rfl (X184.de at_668)) ?_
        show Run _ _ _ _ _ _ _ _ _ _ _ _ _ T184 (mkF m 670 #[.val (.int mk), .val (.int x1), .val (.int x2), .val (.int x3), .val (.int tl), .val (.int ps), .val (.int ch), .val (.ref x101), .val (.int sel), .val (.ref x164), .unset, .unset, .unset, .unset] [(.int (18 : Int32))])
        refine Run.via (fun _ => XS.istore X184.at X184.ex rfl (X184.de at_670) rfl (l' := #[.val (.int mk), .val (.int x1), .val (.int x2), .val (.int x3), .val (.int tl), .val (.int ps), .val (.int ch), .val (.ref x101), .val (.int sel), .val (.ref x164), .val (.int (18 : Int32)), .unset, .unset, .unset]) rfl) ?_
        show Run _ _ _ _ _ _ _ _ _ _ _ _ _ T184 (mkF m 672 #[.val (.int mk), .val (.int x1), .val (.int x2), .val (.int x3), .val (.int tl), .val (.int ps), .val (.int ch), .val (.ref x101), .val (.int sel), .val (.ref x164), .val (.int (18 : Int32)), .unset, .unset, .unset] [])
        refine Run.via (fun _ => XS.goto X184.at X184.ex rfl (pc0 := 672) (pc' := 711) rfl (X184.de at_672) (by decide) (by decide)) ?_
        show Run _ _ _ _ _ _ _ _ _ _ _ _ _ T184 (mkF m 711 #[.val (.int mk), .val (.int x1), .val (.int x2), .val (.int x3), .val (.int tl), .val (.int ps), .val (.int ch), .val (.ref x101), .val (.int sel), .val (.ref x164), .val (.int (18 : Int32)), .unset, .unset, .unset] [])
        exact J711 _ _ _ _ 18 (by decide) ((X184.less (fun z hz => by simp at hz ⊢; simp [hz])).mono (Nat.le_of_ble_eq_true rfl) (Nat.le_of_ble_eq_true rfl)) (SL19.keep KK20) S184
      ·
        refine Run.via (fun _ => XS.icmpYes X137.at X137.ex rfl (pc0 := 502) (pc' := 675) rfl (X137.de at_502) rfl (feq z1).2 (by decide) (by decide)) ?_
        show Run _ _ _ _ _ _ _ _ _ _ _ _ _ T137 (mkF m 675 #[.val (.int mk), .val (.int x1), .val (.int x2), .val (.int x3), .val (.int tl), .val (.int ps), .val (.int ch), .val (.ref x101), .val (.int sel), .unset, .unset, .unset, .unset, .unset] [])
        refine Run.via (fun _ => XS.iload X137.at X137.ex rfl (X137.de at_675) rfl) ?_
        show Run _ _ _ _ _ _ _ _ _ _ _ _ _ T137 (mkF m 677 #[.val (.int mk), .val (.int x1), .val (.int x2), .val (.int x3), .val (.int tl), .val (.int ps), .val (.int ch), .val (.ref x101), .val (.int sel), .unset, .unset, .unset, .unset, .unset] [(.int sel)])
        refine Run.via (fun _ => XS.iconst X137.at X137.ex rfl (X137.de at_677)) ?_
        show Run _ _ _ _ _ _ _ _ _ _ _ _ _ T137 (mkF m 678 #[.val (.int mk), .val (.int x1), .val (.int x2), .val (.int x3), .val (.int tl), .val (.int ps), .val (.int ch), .val (.ref x101), .val (.int sel), .unset, .unset, .unset, .unset, .unset] [(.int (2 : Int32)), (.int sel)])
        by_cases z2 : sel = (2 : Int32)
        ·
          refine Run.via (fun _ => XS.icmpNo X137.at X137.ex rfl (X137.de at_678) rfl (teq z2).2) ?_
          show Run _ _ _ _ _ _ _ _ _ _ _ _ _ T137 (mkF m 681 #[.val (.int mk), .val (.int x1), .val (.int x2), .val (.int x3), .val (.int tl), .val (.int ps), .val (.int ch), .val (.ref x101), .val (.int sel), .unset, .unset, .unset, .unset, .unset] [])
          have uz := X137.kp.1
          have ulz := A137.lt
          refine Run.new X137 (wd hw 41 rfl) (wd hw 10 rfl) (wd hw 9 rfl) at_681 (Nat.le_of_ble_eq_true rfl) (Nat.le_of_ble_eq_true rfl) ?_
          intro T185 h185 x185 g185 X185 K185 z185 E185 D185
          show Run _ _ _ _ _ _ _ _ _ _ _ _ _ T185 (mkF m 684 #[.val (.int mk), .val (.int x1), .val (.int x2), .val (.int x3), .val (.int tl), .val (.int ps), .val (.int ch), .val (.ref x101), .val (.int sel), .unset, .unset, .unset, .unset, .unset] [(.ref x185)])
          have s185 := K185.1
          have G185 : Raw Z h185 x185 := ⟨E185, D185 (Or.inr (wd hw 12 rfl)) (ty := (.array .byte)) (by decide), D185 (Or.inr (wd hw 13 rfl)) (ty := .byte) (by decide)⟩
          refine Run.via (fun _ => XS.dup X185.at X185.ex rfl (X185.de at_684) rfl rfl) ?_
          show Run _ _ _ _ _ _ _ _ _ _ _ _ _ T185 (mkF m 685 #[.val (.int mk), .val (.int x1), .val (.int x2), .val (.int x3), .val (.int tl), .val (.int ps), .val (.int ch), .val (.ref x101), .val (.int sel), .unset, .unset, .unset, .unset, .unset] [(.ref x185), (.ref x185)])
          refine Run.via (fun _ => XS.aload X185.at X185.ex rfl (X185.de at_685) rfl rfl) ?_
          show Run _ _ _ _ _ _ _ _ _ _ _ _ _ T185 (mkF m 687 #[.val (.int mk), .val (.int x1), .val (.int x2), .val (.int x3), .val (.int tl), .val (.int ps), .val (.int ch), .val (.ref x101), .val (.int sel), .unset, .unset, .unset, .unset, .unset] [(.ref x101), (.ref x185), (.ref x185)])
          refine Run.initStr hw hS X185 (cs := ([d0, d1, d2, d3, d4, d5, d6, d7, d8, d9, d10, d11, d12, d13, d14, d15, d16, d17, d18, d19] : List Int32)) (W := 1) G185 (A137.keep K185 nin0) hlD (Nat.le_of_ble_eq_true rfl) (wd hw 42 rfl) (wd hw 43 rfl) (wd hw 10 rfl) at_687 rfl (Or.inr (by omega)) (by omega) (by simp) (Nat.le_of_ble_eq_true rfl) (by decide) (by decide) (Nat.le_of_ble_eq_true rfl) (Nat.le_of_ble_eq_true rfl) ?_
          intro T186 h186 L186 X186 K186 S186
          show Run _ _ _ _ _ _ _ _ _ _ _ _ _ T186 (mkF m 690 #[.val (.int mk), .val (.int x1), .val (.int x2), .val (.int x3), .val (.int tl), .val (.int ps), .val (.int ch), .val (.ref x101), .val (.int sel), .unset, .unset, .unset, .unset, .unset] [(.ref x185)])
          have KK := K185.trans K186 (fun z hz => by cases List.mem_singleton.mp hz; exact Or.inr (by omega))
          refine Run.via (fun _ => XS.astore X186.at X186.ex rfl (X186.de at_690) rfl rfl (l' := #[.val (.int mk), .val (.int x1), .val (.int x2), .val (.int x3), .val (.int tl), .val (.int ps), .val (.int ch), .val (.ref x101), .val (.int sel), .val (.ref x185), .unset, .unset, .unset, .unset]) rfl) ?_
          show Run _ _ _ _ _ _ _ _ _ _ _ _ _ T186 (mkF m 692 #[.val (.int mk), .val (.int x1), .val (.int x2), .val (.int x3), .val (.int tl), .val (.int ps), .val (.int ch), .val (.ref x101), .val (.int sel), .val (.ref x185), .unset, .unset, .unset, .unset] [])
          refine Run.via (fun _ => XS.bipush X186.at X186.ex rfl (X186.de at_692)) ?_
          show Run _ _ _ _ _ _ _ _ _ _ _ _ _ T186 (mkF m 694 #[.val (.int mk), .val (.int x1), .val (.int x2), .val (.int x3), .val (.int tl), .val (.int ps), .val (.int ch), .val (.ref x101), .val (.int sel), .val (.ref x185), .unset, .unset, .unset, .unset] [(.int (20 : Int32))])
          refine Run.via (fun _ => XS.istore X186.at X186.ex rfl (X186.de at_694) rfl (l' := #[.val (.int mk), .val (.int x1), .val (.int x2), .val (.int x3), .val (.int tl), .val (.int ps), .val (.int ch), .val (.ref x101), .val (.int sel), .val (.ref x185), .val (.int (20 : Int32)), .unset, .unset, .unset]) rfl) ?_
          show Run _ _ _ _ _ _ _ _ _ _ _ _ _ T186 (mkF m 696 #[.val (.int mk), .val (.int x1), .val (.int x2), .val (.int x3), .val (.int tl), .val (.int ps), .val (.int ch), .val (.ref x101), .val (.int sel), .val (.ref x185), .val (.int (20 : Int32)), .unset, .unset, .unset] [])
          refine Run.via (fun _ => XS.goto X186.at X186.ex rfl (pc0 := 696) (pc' := 711) rfl (X186.de at_696) (by decide) (by decide)) ?_
          show Run _ _ _ _ _ _ _ _ _ _ _ _ _ T186 (mkF m 711 #[.val (.int mk), .val (.int x1), .val (.int x2), .val (.int x3), .val (.int tl), .val (.int ps), .val (.int ch), .val (.ref x101), .val (.int sel), .val (.ref x185), .val (.int (20 : Int32)), .unset, .unset, .unset] [])
          exact J711 _ _ _ _ 20 (by decide) ((X186.less (fun z hz => by simp at hz ⊢; simp [hz])).mono (Nat.le_of_ble_eq_true rfl) (Nat.le_of_ble_eq_true rfl)) (SL19.keep KK) S186
        ·
          refine Run.via (fun _ => XS.icmpYes X137.at X137.ex rfl (pc0 := 678) (pc' := 699) rfl (X137.de at_678) rfl (feq z2).2 (by decide) (by decide)) ?_
          show Run _ _ _ _ _ _ _ _ _ _ _ _ _ T137 (mkF m 699 #[.val (.int mk), .val (.int x1), .val (.int x2), .val (.int x3), .val (.int tl), .val (.int ps), .val (.int ch), .val (.ref x101), .val (.int sel), .unset, .unset, .unset, .unset, .unset] [])
          refine Run.via (fun _ => XS.aload X137.at X137.ex rfl (X137.de at_699) rfl rfl) ?_
          show Run _ _ _ _ _ _ _ _ _ _ _ _ _ T137 (mkF m 701 #[.val (.int mk), .val (.int x1), .val (.int x2), .val (.int x3), .val (.int tl), .val (.int ps), .val (.int ch), .val (.ref x101), .val (.int sel), .unset, .unset, .unset, .unset, .unset] [(.ref x101)])
          refine Run.via (fun _ => XS.iconst X137.at X137.ex rfl (X137.de at_701)) ?_
          show Run _ _ _ _ _ _ _ _ _ _ _ _ _ T137 (mkF m 702 #[.val (.int mk), .val (.int x1), .val (.int x2), .val (.int x3), .val (.int tl), .val (.int ps), .val (.int ch), .val (.ref x101), .val (.int sel), .unset, .unset, .unset, .unset, .unset] [(.int (0 : Int32)), (.ref x101)])
          refine Run.caload X137 (i := 0) A137 rfl (Nat.le_of_ble_eq_true rfl) at_702 ?_
          show Run _ _ _ _ _ _ _ _ _ _ _ _ _ T137 (mkF m 703 #[.val (.int mk), .val (.int x1), .val (.int x2), .val (.int x3), .val (.int tl), .val (.int ps), .val (.int ch), .val (.ref x101), .val (.int sel), .unset, .unset, .unset, .unset, .unset] [(.int d0)])
          refine Run.callS X137 (y := (⟨"java/lang/String", "valueOf", "(C)Ljava/lang/String;"⟩ : MethodName)) (W := 0) (con_vo l hw hS t0.2.2 X137.old) (wd hw 90 rfl) (wd hw 91 rfl) (wd hw 9 rfl) (wd hw 92 rfl) (by decide) pd__C_Ljava_lang_String_ rfl (argsL := [(.int d0)]) (rest := []) rfl (Nat.le_of_ble_eq_true rfl) rfl at_703 (by decide) (by decide) (Nat.le_of_ble_eq_true rfl) (Nat.le_of_ble_eq_true rfl) (nofun) (nofun) ?_
          intro v187 T187 h187 L187 q187 X187 XF187 XK187 K187
          obtain ⟨y, rfl, SY⟩ := q187
          show Run _ _ _ _ _ _ _ _ _ _ _ _ _ T187 (mkF m 706 #[.val (.int mk), .val (.int x1), .val (.int x2), .val (.int x3), .val (.int tl), .val (.int ps), .val (.int ch), .val (.ref x101), .val (.int sel), .unset, .unset, .unset, .unset, .unset] [(.ref y)])
          refine Run.via (fun _ => XS.astore X187.at X187.ex rfl (X187.de at_706) rfl rfl (l' := #[.val (.int mk), .val (.int x1), .val (.int x2), .val (.int x3), .val (.int tl), .val (.int ps), .val (.int ch), .val (.ref x101), .val (.int sel), .val (.ref y), .unset, .unset, .unset, .unset]) rfl) ?_
          show Run _ _ _ _ _ _ _ _ _ _ _ _ _ T187 (mkF m 708 #[.val (.int mk), .val (.int x1), .val (.int x2), .val (.int x3), .val (.int tl), .val (.int ps), .val (.int ch), .val (.ref x101), .val (.int sel), .val (.ref y), .unset, .unset, .unset, .unset] [])
          refine Run.via (fun _ => XS.iconst X187.at X187.ex rfl (X187.de at_708)) ?_
          show Run _ _ _ _ _ _ _ _ _ _ _ _ _ T187 (mkF m 709 #[.val (.int mk), .val (.int x1), .val (.int x2), .val (.int x3), .val (.int tl), .val (.int ps), .val (.int ch), .val (.ref x101), .val (.int sel), .val (.ref y), .unset, .unset, .unset, .unset] [(.int (1 : Int32))])
          refine Run.via (fun _ => XS.istore X187.at X187.ex rfl (X187.de at_709) rfl (l' := #[.val (.int mk), .val (.int x1), .val (.int x2), .val (.int x3), .val (.int tl), .val (.int ps), .val (.int ch), .val (.ref x101), .val (.int sel), .val (.ref y), .val (.int (1 : Int32)), .unset, .unset, .unset]) rfl) ?_
          show Run _ _ _ _ _ _ _ _ _ _ _ _ _ T187 (mkF m 711 #[.val (.int mk), .val (.int x1), .val (.int x2), .val (.int x3), .val (.int tl), .val (.int ps), .val (.int ch), .val (.ref x101), .val (.int sel), .val (.ref y), .val (.int (1 : Int32)), .unset, .unset, .unset] [])
          exact J711 _ _ _ _ 1 (by decide) ((X187.less (fun z hz => by simp at hz ⊢; simp [hz])).mono (Nat.le_of_ble_eq_true rfl) (Nat.le_of_ble_eq_true rfl)) (SL19.keep K187) SY
  by_cases hp0 : Int32.ofNat 0 = ps
  ·
    refine Run.via (fun _ => XS.dup X101.at X101.ex rfl (X101.de at_18) rfl rfl) ?_
    show Run _ _ _ _ _ _ _ _ _ _ _ _ _ T101 (mkF m 19 #[.val (.int mk), .val (.int x1), .val (.int x2), .val (.int x3), .val (.int tl), .val (.int ps), .val (.int ch), .unset, .unset, .unset, .unset, .unset, .unset, .unset] [(.ref x101), (.ref x101)])
    refine Run.via (fun _ => XS.iconst X101.at X101.ex rfl (X101.de at_19)) ?_
    show Run _ _ _ _ _ _ _ _ _ _ _ _ _ T101 (mkF m 20 #[.val (.int mk), .val (.int x1), .val (.int x2), .val (.int x3), .val (.int tl), .val (.int ps), .val (.int ch), .unset, .unset, .unset, .unset, .unset, .unset, .unset] [(.int (0 : Int32)), (.ref x101), (.ref x101)])
    refine Run.via (fun _ => XS.iconst X101.at X101.ex rfl (X101.de at_20)) ?_
    show Run _ _ _ _ _ _ _ _ _ _ _ _ _ T101 (mkF m 21 #[.val (.int mk), .val (.int x1), .val (.int x2), .val (.int x3), .val (.int tl), .val (.int ps), .val (.int ch), .unset, .unset, .unset, .unset, .unset, .unset, .unset] [(.int (0 : Int32)), (.int (0 : Int32)), (.ref x101), (.ref x101)])
    refine Run.via (fun _ => XS.iloadN X101.at X101.ex rfl (X101.de at_21) rfl) ?_
    show Run _ _ _ _ _ _ _ _ _ _ _ _ _ T101 (mkF m 22 #[.val (.int mk), .val (.int x1), .val (.int x2), .val (.int x3), .val (.int tl), .val (.int ps), .val (.int ch), .unset, .unset, .unset, .unset, .unset, .unset, .unset] [(.int mk), (.int (0 : Int32)), (.int (0 : Int32)), (.ref x101), (.ref x101)])
    refine Run.via (fun _ => XS.iload X101.at X101.ex rfl (X101.de at_22) rfl) ?_
    show Run _ _ _ _ _ _ _ _ _ _ _ _ _ T101 (mkF m 24 #[.val (.int mk), .val (.int x1), .val (.int x2), .val (.int x3), .val (.int tl), .val (.int ps), .val (.int ch), .unset, .unset, .unset, .unset, .unset, .unset, .unset] [(.int ps), (.int mk), (.int (0 : Int32)), (.int (0 : Int32)), (.ref x101), (.ref x101)])
    refine Run.via (fun _ => XS.iload X101.at X101.ex rfl (X101.de at_24) rfl) ?_
    show Run _ _ _ _ _ _ _ _ _ _ _ _ _ T101 (mkF m 26 #[.val (.int mk), .val (.int x1), .val (.int x2), .val (.int x3), .val (.int tl), .val (.int ps), .val (.int ch), .unset, .unset, .unset, .unset, .unset, .unset, .unset] [(.int ch), (.int ps), (.int mk), (.int (0 : Int32)), (.int (0 : Int32)), (.ref x101), (.ref x101)])
    refine Run.via (fun _ => XS.iload X101.at X101.ex rfl (X101.de at_26) rfl) ?_
    show Run _ _ _ _ _ _ _ _ _ _ _ _ _ T101 (mkF m 28 #[.val (.int mk), .val (.int x1), .val (.int x2), .val (.int x3), .val (.int tl), .val (.int ps), .val (.int ch), .unset, .unset, .unset, .unset, .unset, .unset, .unset] [(.int tl), (.int ch), (.int ps), (.int mk), (.int (0 : Int32)), (.int (0 : Int32)), (.ref x101), (.ref x101)])
    refine Run.callS X101 (y := (⟨"com/example/veneer/veneer/ServiceIriIsServiceIriPinLaw", "at", "(IIICI)C"⟩ : MethodName)) (W := 3) (con_aP l hw (i := 0) rc hp0 X101.old) (wd hw 1 rfl) (wd hw 2 rfl) (wd hw 3 rfl) (wd hw 4 rfl) (by decide) pd__IIICI_C rfl (argsL := [(.int (0 : Int32)), (.int mk), (.int ps), (.int ch), (.int tl)]) (rest := [(.int (0 : Int32)), (.ref x101), (.ref x101)]) rfl (Nat.le_of_ble_eq_true rfl) rfl at_28 (by decide) (by decide) (Nat.le_of_ble_eq_true rfl) (Nat.le_of_ble_eq_true rfl) (nofun) (nofun) ?_
    intro v188 T188 h188 L188 q188 X188 XF188 XK188 K188
    obtain ⟨d0, rfl, t0⟩ := q188
    show Run _ _ _ _ _ _ _ _ _ _ _ _ _ T188 (mkF m 31 #[.val (.int mk), .val (.int x1), .val (.int x2), .val (.int x3), .val (.int tl), .val (.int ps), .val (.int ch), .unset, .unset, .unset, .unset, .unset, .unset, .unset] [(.int d0), (.int (0 : Int32)), (.ref x101), (.ref x101)])
    have A188x := A101.keep K188 nin0
    have u0 := X188.kp.1
    have ul0 := A188x.lt
    refine Run.castore X188 (i := 0) (v' := d0) A188x rfl (Nat.le_of_ble_eq_true rfl) (nar_lat t0.2.2) (Or.inr (by omega)) (by omega) at_31 ?_
    intro T189 h189 L189 X189 K189 z189 A189
    have A189 : Arc .char Z h189 x101 [d0, (0 : Int32), (0 : Int32), (0 : Int32), (0 : Int32), (0 : Int32), (0 : Int32), (0 : Int32), (0 : Int32), (0 : Int32), (0 : Int32), (0 : Int32), (0 : Int32), (0 : Int32), (0 : Int32), (0 : Int32), (0 : Int32), (0 : Int32), (0 : Int32), (0 : Int32)] := A189
    show Run _ _ _ _ _ _ _ _ _ _ _ _ _ T189 (mkF m 32 #[.val (.int mk), .val (.int x1), .val (.int x2), .val (.int x3), .val (.int tl), .val (.int ps), .val (.int ch), .unset, .unset, .unset, .unset, .unset, .unset, .unset] [(.ref x101)])
    refine Run.via (fun _ => XS.dup X189.at X189.ex rfl (X189.de at_32) rfl rfl) ?_
    show Run _ _ _ _ _ _ _ _ _ _ _ _ _ T189 (mkF m 33 #[.val (.int mk), .val (.int x1), .val (.int x2), .val (.int x3), .val (.int tl), .val (.int ps), .val (.int ch), .unset, .unset, .unset, .unset, .unset, .unset, .unset] [(.ref x101), (.ref x101)])
    refine Run.via (fun _ => XS.iconst X189.at X189.ex rfl (X189.de at_33)) ?_
    show Run _ _ _ _ _ _ _ _ _ _ _ _ _ T189 (mkF m 34 #[.val (.int mk), .val (.int x1), .val (.int x2), .val (.int x3), .val (.int tl), .val (.int ps), .val (.int ch), .unset, .unset, .unset, .unset, .unset, .unset, .unset] [(.int (1 : Int32)), (.ref x101), (.ref x101)])
    refine Run.via (fun _ => XS.iconst X189.at X189.ex rfl (X189.de at_34)) ?_
    show Run _ _ _ _ _ _ _ _ _ _ _ _ _ T189 (mkF m 35 #[.val (.int mk), .val (.int x1), .val (.int x2), .val (.int x3), .val (.int tl), .val (.int ps), .val (.int ch), .unset, .unset, .unset, .unset, .unset, .unset, .unset] [(.int (1 : Int32)), (.int (1 : Int32)), (.ref x101), (.ref x101)])
    refine Run.via (fun _ => XS.iloadN X189.at X189.ex rfl (X189.de at_35) rfl) ?_
    show Run _ _ _ _ _ _ _ _ _ _ _ _ _ T189 (mkF m 36 #[.val (.int mk), .val (.int x1), .val (.int x2), .val (.int x3), .val (.int tl), .val (.int ps), .val (.int ch), .unset, .unset, .unset, .unset, .unset, .unset, .unset] [(.int mk), (.int (1 : Int32)), (.int (1 : Int32)), (.ref x101), (.ref x101)])
    refine Run.via (fun _ => XS.iload X189.at X189.ex rfl (X189.de at_36) rfl) ?_
    show Run _ _ _ _ _ _ _ _ _ _ _ _ _ T189 (mkF m 38 #[.val (.int mk), .val (.int x1), .val (.int x2), .val (.int x3), .val (.int tl), .val (.int ps), .val (.int ch), .unset, .unset, .unset, .unset, .unset, .unset, .unset] [(.int ps), (.int mk), (.int (1 : Int32)), (.int (1 : Int32)), (.ref x101), (.ref x101)])
    refine Run.via (fun _ => XS.iload X189.at X189.ex rfl (X189.de at_38) rfl) ?_
    show Run _ _ _ _ _ _ _ _ _ _ _ _ _ T189 (mkF m 40 #[.val (.int mk), .val (.int x1), .val (.int x2), .val (.int x3), .val (.int tl), .val (.int ps), .val (.int ch), .unset, .unset, .unset, .unset, .unset, .unset, .unset] [(.int ch), (.int ps), (.int mk), (.int (1 : Int32)), (.int (1 : Int32)), (.ref x101), (.ref x101)])
    refine Run.via (fun _ => XS.iload X189.at X189.ex rfl (X189.de at_40) rfl) ?_
    show Run _ _ _ _ _ _ _ _ _ _ _ _ _ T189 (mkF m 42 #[.val (.int mk), .val (.int x1), .val (.int x2), .val (.int x3), .val (.int tl), .val (.int ps), .val (.int ch), .unset, .unset, .unset, .unset, .unset, .unset, .unset] [(.int tl), (.int ch), (.int ps), (.int mk), (.int (1 : Int32)), (.int (1 : Int32)), (.ref x101), (.ref x101)])
    refine Run.callS X189 (y := (⟨"com/example/veneer/veneer/ServiceIriIsServiceIriPinLaw", "at", "(IIICI)C"⟩ : MethodName)) (W := 3) (con_a1 l hw hS hN hm (i := 1) (by decide) rc (by rw [← hp0]; decide) X189.old) (wd hw 1 rfl) (wd hw 2 rfl) (wd hw 3 rfl) (wd hw 4 rfl) (by decide) pd__IIICI_C rfl (argsL := [(.int (1 : Int32)), (.int mk), (.int ps), (.int ch), (.int tl)]) (rest := [(.int (1 : Int32)), (.ref x101), (.ref x101)]) rfl (Nat.le_of_ble_eq_true rfl) rfl at_42 (by decide) (by decide) (Nat.le_of_ble_eq_true rfl) (Nat.le_of_ble_eq_true rfl) (nofun) (nofun) ?_
    intro v190 T190 h190 L190 q190 X190 XF190 XK190 K190
    obtain ⟨d1, rfl, t1⟩ := q190
    show Run _ _ _ _ _ _ _ _ _ _ _ _ _ T190 (mkF m 45 #[.val (.int mk), .val (.int x1), .val (.int x2), .val (.int x3), .val (.int tl), .val (.int ps), .val (.int ch), .unset, .unset, .unset, .unset, .unset, .unset, .unset] [(.int d1), (.int (1 : Int32)), (.ref x101), (.ref x101)])
    have A190x := A189.keep K190 nin0
    obtain ⟨ka, SK, X190⟩ := XK190 rfl
    have u1 := X190.kp.1
    have ul1 := A190x.lt
    refine Run.castore X190 (i := 1) (v' := d1) A190x rfl (Nat.le_of_ble_eq_true rfl) (nar_lat t1.2.2) (Or.inr (by omega)) (by omega) at_45 ?_
    intro T191 h191 L191 X191 K191 z191 A191
    have A191 : Arc .char Z h191 x101 [d0, d1, (0 : Int32), (0 : Int32), (0 : Int32), (0 : Int32), (0 : Int32), (0 : Int32), (0 : Int32), (0 : Int32), (0 : Int32), (0 : Int32), (0 : Int32), (0 : Int32), (0 : Int32), (0 : Int32), (0 : Int32), (0 : Int32), (0 : Int32), (0 : Int32)] := A191
    show Run _ _ _ _ _ _ _ _ _ _ _ _ _ T191 (mkF m 46 #[.val (.int mk), .val (.int x1), .val (.int x2), .val (.int x3), .val (.int tl), .val (.int ps), .val (.int ch), .unset, .unset, .unset, .unset, .unset, .unset, .unset] [(.ref x101)])
    have SL1 := SK.keepC A190x K191 (wd hw 10 rfl)
    exact J46 _ _ _ _ _ _ X191 SL1 t0 t1 A191
  ·
    refine Run.via (fun _ => XS.dup X101.at X101.ex rfl (X101.de at_18) rfl rfl) ?_
    show Run _ _ _ _ _ _ _ _ _ _ _ _ _ T101 (mkF m 19 #[.val (.int mk), .val (.int x1), .val (.int x2), .val (.int x3), .val (.int tl), .val (.int ps), .val (.int ch), .unset, .unset, .unset, .unset, .unset, .unset, .unset] [(.ref x101), (.ref x101)])
    refine Run.via (fun _ => XS.iconst X101.at X101.ex rfl (X101.de at_19)) ?_
    show Run _ _ _ _ _ _ _ _ _ _ _ _ _ T101 (mkF m 20 #[.val (.int mk), .val (.int x1), .val (.int x2), .val (.int x3), .val (.int tl), .val (.int ps), .val (.int ch), .unset, .unset, .unset, .unset, .unset, .unset, .unset] [(.int (0 : Int32)), (.ref x101), (.ref x101)])
    refine Run.via (fun _ => XS.iconst X101.at X101.ex rfl (X101.de at_20)) ?_
    show Run _ _ _ _ _ _ _ _ _ _ _ _ _ T101 (mkF m 21 #[.val (.int mk), .val (.int x1), .val (.int x2), .val (.int x3), .val (.int tl), .val (.int ps), .val (.int ch), .unset, .unset, .unset, .unset, .unset, .unset, .unset] [(.int (0 : Int32)), (.int (0 : Int32)), (.ref x101), (.ref x101)])
    refine Run.via (fun _ => XS.iloadN X101.at X101.ex rfl (X101.de at_21) rfl) ?_
    show Run _ _ _ _ _ _ _ _ _ _ _ _ _ T101 (mkF m 22 #[.val (.int mk), .val (.int x1), .val (.int x2), .val (.int x3), .val (.int tl), .val (.int ps), .val (.int ch), .unset, .unset, .unset, .unset, .unset, .unset, .unset] [(.int mk), (.int (0 : Int32)), (.int (0 : Int32)), (.ref x101), (.ref x101)])
    refine Run.via (fun _ => XS.iload X101.at X101.ex rfl (X101.de at_22) rfl) ?_
    show Run _ _ _ _ _ _ _ _ _ _ _ _ _ T101 (mkF m 24 #[.val (.int mk), .val (.int x1), .val (.int x2), .val (.int x3), .val (.int tl), .val (.int ps), .val (.int ch), .unset, .unset, .unset, .unset, .unset, .unset, .unset] [(.int ps), (.int mk), (.int (0 : Int32)), (.int (0 : Int32)), (.ref x101), (.ref x101)])
    refine Run.via (fun _ => XS.iload X101.at X101.ex rfl (X101.de at_24) rfl) ?_
    show Run _ _ _ _ _ _ _ _ _ _ _ _ _ T101 (mkF m 26 #[.val (.int mk), .val (.int x1), .val (.int x2), .val (.int x3), .val (.int tl), .val (.int ps), .val (.int ch), .unset, .unset, .unset, .unset, .unset, .unset, .unset] [(.int ch), (.int ps), (.int mk), (.int (0 : Int32)), (.int (0 : Int32)), (.ref x101), (.ref x101)])
    refine Run.via (fun _ => XS.iload X101.at X101.ex rfl (X101.de at_26) rfl) ?_
    show Run _ _ _ _ _ _ _ _ _ _ _ _ _ T101 (mkF m 28 #[.val (.int mk), .val (.int x1), .val (.int x2), .val (.int x3), .val (.int tl), .val (.int ps), .val (.int ch), .unset, .unset, .unset, .unset, .unset, .unset, .unset] [(.int tl), (.int ch), (.int ps), (.int mk), (.int (0 : Int32)), (.int (0 : Int32)), (.ref x101), (.ref x101)])
    refine Run.callS X101 (y := (⟨"com/example/veneer/veneer/ServiceIriIsServiceIriPinLaw", "at", "(IIICI)C"⟩ : MethodName)) (W := 3) (con_a1 l hw hS hN hm (i := 0) (by decide) rc hp0 X101.old) (wd hw 1 rfl) (wd hw 2 rfl) (wd hw 3 rfl) (wd hw 4 rfl) (by decide) pd__IIICI_C rfl (argsL := [(.int (0 : Int32)), (.int mk), (.int ps), (.int ch), (.int tl)]) (rest := [(.int (0 : Int32)), (.ref x101), (.ref x101)]) rfl (Nat.le_of_ble_eq_true rfl) rfl at_28 (by decide) (by decide) (Nat.le_of_ble_eq_true rfl) (Nat.le_of_ble_eq_true rfl) (nofun) (nofun) ?_
    intro v192 T192 h192 L192 q192 X192 XF192 XK192 K192
    obtain ⟨d0, rfl, t0⟩ := q192
    show Run _ _ _ _ _ _ _ _ _ _ _ _ _ T192 (mkF m 31 #[.val (.int mk), .val (.int x1), .val (.int x2), .val (.int x3), .val (.int tl), .val (.int ps), .val (.int ch), .unset, .unset, .unset, .unset, .unset, .unset, .unset] [(.int d0), (.int (0 : Int32)), (.ref x101), (.ref x101)])
    have A192x := A101.keep K192 nin0
    obtain ⟨ka, SK, X192⟩ := XK192 rfl
    have u0 := X192.kp.1
    have ul0 := A192x.lt
    refine Run.castore X192 (i := 0) (v' := d0) A192x rfl (Nat.le_of_ble_eq_true rfl) (nar_lat t0.2.2) (Or.inr (by omega)) (by omega) at_31 ?_
    intro T193 h193 L193 X193 K193 z193 A193
    have A193 : Arc .char Z h193 x101 [d0, (0 : Int32), (0 : Int32), (0 : Int32), (0 : Int32), (0 : Int32), (0 : Int32), (0 : Int32), (0 : Int32), (0 : Int32), (0 : Int32), (0 : Int32), (0 : Int32), (0 : Int32), (0 : Int32), (0 : Int32), (0 : Int32), (0 : Int32), (0 : Int32), (0 : Int32)] := A193
    show Run _ _ _ _ _ _ _ _ _ _ _ _ _ T193 (mkF m 32 #[.val (.int mk), .val (.int x1), .val (.int x2), .val (.int x3), .val (.int tl), .val (.int ps), .val (.int ch), .unset, .unset, .unset, .unset, .unset, .unset, .unset] [(.ref x101)])
    have SL0 := SK.keepC A192x K193 (wd hw 10 rfl)
    refine Run.via (fun _ => XS.dup X193.at X193.ex rfl (X193.de at_32) rfl rfl) ?_
    show Run _ _ _ _ _ _ _ _ _ _ _ _ _ T193 (mkF m 33 #[.val (.int mk), .val (.int x1), .val (.int x2), .val (.int x3), .val (.int tl), .val (.int ps), .val (.int ch), .unset, .unset, .unset, .unset, .unset, .unset, .unset] [(.ref x101), (.ref x101)])
    refine Run.via (fun _ => XS.iconst X193.at X193.ex rfl (X193.de at_33)) ?_
    show Run _ _ _ _ _ _ _ _ _ _ _ _ _ T193 (mkF m 34 #[.val (.int mk), .val (.int x1), .val (.int x2), .val (.int x3), .val (.int tl), .val (.int ps), .val (.int ch), .unset, .unset, .unset, .unset, .unset, .unset, .unset] [(.int (1 : Int32)), (.ref x101), (.ref x101)])
    refine Run.via (fun _ => XS.iconst X193.at X193.ex rfl (X193.de at_34)) ?_
    show Run _ _ _ _ _ _ _ _ _ _ _ _ _ T193 (mkF m 35 #[.val (.int mk), .val (.int x1), .val (.int x2), .val (.int x3), .val (.int tl), .val (.int ps), .val (.int ch), .unset, .unset, .unset, .unset, .unset, .unset, .unset] [(.int (1 : Int32)), (.int (1 : Int32)), (.ref x101), (.ref x101)])
    refine Run.via (fun _ => XS.iloadN X193.at X193.ex rfl (X193.de at_35) rfl) ?_
    show Run _ _ _ _ _ _ _ _ _ _ _ _ _ T193 (mkF m 36 #[.val (.int mk), .val (.int x1), .val (.int x2), .val (.int x3), .val (.int tl), .val (.int ps), .val (.int ch), .unset, .unset, .unset, .unset, .unset, .unset, .unset] [(.int mk), (.int (1 : Int32)), (.int (1 : Int32)), (.ref x101), (.ref x101)])
    refine Run.via (fun _ => XS.iload X193.at X193.ex rfl (X193.de at_36) rfl) ?_
    show Run _ _ _ _ _ _ _ _ _ _ _ _ _ T193 (mkF m 38 #[.val (.int mk), .val (.int x1), .val (.int x2), .val (.int x3), .val (.int tl), .val (.int ps), .val (.int ch), .unset, .unset, .unset, .unset, .unset, .unset, .unset] [(.int ps), (.int mk), (.int (1 : Int32)), (.int (1 : Int32)), (.ref x101), (.ref x101)])
    refine Run.via (fun _ => XS.iload X193.at X193.ex rfl (X193.de at_38) rfl) ?_
    show Run _ _ _ _ _ _ _ _ _ _ _ _ _ T193 (mkF m 40 #[.val (.int mk), .val (.int x1), .val (.int x2), .val (.int x3), .val (.int tl), .val (.int ps), .val (.int ch), .unset, .unset, .unset, .unset, .unset, .unset, .unset] [(.int ch), (.int ps), (.int mk), (.int (1 : Int32)), (.int (1 : Int32)), (.ref x101), (.ref x101)])
    refine Run.via (fun _ => XS.iload X193.at X193.ex rfl (X193.de at_40) rfl) ?_
    show Run _ _ _ _ _ _ _ _ _ _ _ _ _ T193 (mkF m 42 #[.val (.int mk), .val (.int x1), .val (.int x2), .val (.int x3), .val (.int tl), .val (.int ps), .val (.int ch), .unset, .unset, .unset, .unset, .unset, .unset, .unset] [(.int tl), (.int ch), (.int ps), (.int mk), (.int (1 : Int32)), (.int (1 : Int32)), (.ref x101), (.ref x101)])
    refine Run.callS X193 (y := (⟨"com/example/veneer/veneer/ServiceIriIsServiceIriPinLaw", "at", "(IIICI)C"⟩ : MethodName)) (W := 3) (con_aK l hw hS (i := 1) SL0 (by decide) rc X193.old) (wd hw 1 rfl) (wd hw 2 rfl) (wd hw 3 rfl) (wd hw 4 rfl) (by decide) pd__IIICI_C rfl (argsL := [(.int (1 : Int32)), (.int mk), (.int ps), (.int ch), (.int tl)]) (rest := [(.int (1 : Int32)), (.ref x101), (.ref x101)]) rfl (Nat.le_of_ble_eq_true rfl) rfl at_42 (by decide) (by decide) (Nat.le_of_ble_eq_true rfl) (Nat.le_of_ble_eq_true rfl) (nofun) (nofun) ?_
    intro v194 T194 h194 L194 q194 X194 XF194 XK194 K194
    obtain ⟨d1, rfl, t1⟩ := q194
    show Run _ _ _ _ _ _ _ _ _ _ _ _ _ T194 (mkF m 45 #[.val (.int mk), .val (.int x1), .val (.int x2), .val (.int x3), .val (.int tl), .val (.int ps), .val (.int ch), .unset, .unset, .unset, .unset, .unset, .unset, .unset] [(.int d1), (.int (1 : Int32)), (.ref x101), (.ref x101)])
    have A194x := A193.keep K194 nin0
    have SK1 := SL0.keep K194
    have u1 := X194.kp.1
    have ul1 := A194x.lt
    refine Run.castore X194 (i := 1) (v' := d1) A194x rfl (Nat.le_of_ble_eq_true rfl) (nar_lat t1.2.2) (Or.inr (by omega)) (by omega) at_45 ?_
    intro T195 h195 L195 X195 K195 z195 A195
    have A195 : Arc .char Z h195 x101 [d0, d1, (0 : Int32), (0 : Int32), (0 : Int32), (0 : Int32), (0 : Int32), (0 : Int32), (0 : Int32), (0 : Int32), (0 : Int32), (0 : Int32), (0 : Int32), (0 : Int32), (0 : Int32), (0 : Int32), (0 : Int32), (0 : Int32), (0 : Int32), (0 : Int32)] := A195
    show Run _ _ _ _ _ _ _ _ _ _ _ _ _ T195 (mkF m 46 #[.val (.int mk), .val (.int x1), .val (.int x2), .val (.int x3), .val (.int tl), .val (.int ps), .val (.int ch), .unset, .unset, .unset, .unset, .unset, .unset, .unset] [(.ref x101)])
    have SL1 := SK1.keepC A194x K195 (wd hw 10 rfl)
    exact J46 _ _ _ _ _ _ X195 SL1 t0 t1 A195
-- part comes
set_option maxRecDepth 65536 in
set_option maxHeartbeats 40000000 in
theorem comes_1 {Post : Tables → Env → Array Value → State → Outcome → State → Prop} (hpost : ∀ tb e args s v u, (limb_1_1.after args s (.returned v) u = true ∧ limb_1_2.after args s (.returned v) u = true ∧ True) → ReturnedEndW s (.returned v) u (Jvm.fieldLocs frame_1_writes args s ++ Jvm.arrayLocs frame_1_arrays args s ++ Jvm.staticLocs frame_1_statics s) 24 2240 → Post tb e args s (.returned v) u) :
    ArmFor flags0 classFile x code maxLocals ret World_1 tables_1 room_1 Calls_1 rest_1 Pre_1 Post := by
  intro l hfl _ _ p e ha hc hk s m args below hf hA hF happ hP
  obtain ⟨hcalls, hrest, hpre⟩ := hP
  obtain ⟨-, -, -, hnamed, -, -, -, hat⟩ := (Spec.applies_iff hf).mp happ
  obtain ⟨hg, hn⟩ := and_e (Cond.before_iff.mp (show (Jvm.Cond.and given_1 narrow_1).before args s = true from hpre))
  obtain ⟨hcount, hg0⟩ := and_e hg
  obtain ⟨ga0, hg1⟩ := and_e hg0
  obtain ⟨ga1, hg2⟩ := and_e hg1
  obtain ⟨ga2, hg3⟩ := and_e hg2
  obtain ⟨ga3, hg4⟩ := and_e hg3
  have ga4 := hg4
  obtain ⟨w0, w1, w2, w3, w4, rfl⟩ : ∃ w0 w1 w2 w3 w4 : Value, args = #[w0, w1, w2, w3, w4] := by
    have hs : args.size = 5 := by simpa [Cond.value, given_1] using hcount
    obtain ⟨L⟩ := args
    match L, hs with
    | [w0, w1, w2, w3, w4], _ => exact ⟨w0, w1, w2, w3, w4, rfl⟩
  have hw := fun d (hd : d ∈ tables_1) => atoms_spec (ws := Jvm.Cond.code x code maxLocals ret :: tables_1) hat d (List.mem_cons_of_mem _ hd)
  obtain ⟨i0, ei0⟩ := is_v ga0
  obtain rfl : w0 = (.int i0) := Option.some.inj ei0
  obtain ⟨i1, ei1⟩ := is_v ga1
  obtain rfl : w1 = (.int i1) := Option.some.inj ei1
  obtain ⟨i2, ei2⟩ := is_v ga2
  obtain rfl : w2 = (.int i2) := Option.some.inj ei2
  obtain ⟨i3, ei3⟩ := is_v ga3
  obtain rfl : w3 = (.int i3) := Option.some.inj ei3
  obtain ⟨i4, ei4⟩ := is_v ga4
  obtain rfl : w4 = (.int i4) := Option.some.inj ei4
  obtain ⟨hsets, hown0⟩ := atoms_of _ (rest_1_c_eq ▸ (show rest_1_c.before _ s = true from hrest))
  have hS : Sets s := setsOf hsets
  have hEW : EW s _ consts_1 := (EW.cons (wd hw 66 rfl) (by decide) (EW.cons (wd hw 8 rfl) (by decide) EW.nil))
  have hCH : CHv s consts_1 s.vm s.heap := CHv.start hEW (fun p hp => hcalls.1 p hp) (hsets _ (List.mem_of_getElem? (i := 2) rfl)) (wd hw 11 rfl) (wd hw 10 rfl)
  obtain ⟨n, o, h1, h2, h3, _, L, rfl, ⟨N, -, rfl⟩, -, hq, hnw, -⟩ := con_law l hw hS rfl (by decide) (by decide) (mk := i0) (x1 := i1) (x2 := i2) (x3 := i3) (tl := i4) (h0 := s.heap) ⟨Nat.le_refl _, fun _ _ q => q⟩ hEW tables_1 p e ha hc hk s m _ below hf ((Spec.applies_iff_loose hf).mp happ).1 ⟨rfl, State.Warmed39.refl s, rfl, hCH, nofun, nofun⟩ trivial
  refine ⟨n, _, h1, h2, h3, hpost _ _ _ _ _ _ ⟨Cond.after_iff.mpr rfl, Cond.after_iff.mpr (eq_i res_at (Term.int_eval (1)) rfl), trivial⟩ ⟨hq.1, hq.2.1, hq.2.2.1, (hq.2.2.2.sift fun y hy => Or.inr (N y hy)).mono (by decide) (by decide)⟩⟩
theorem main_1_1 : Claimed_1_1 := comes_1 fun _ _ _ _ _ _ h hF => ⟨h.1, hF⟩
theorem main_1_2 : Claimed_1_2 := comes_1 fun _ _ _ _ _ _ h hF => ⟨h.2.1, hF⟩
end Jvm.Pilot.@@N@@
-- part witness
namespace Jvm.Pilot.@@N@@
open Jvm Jvm.ClassFile Sem Op Lib Jvm.Free Jvm.Stand Jvm.Pilot.@@N@@.Jvm.D
/-! MADE BY PROGRAM (witnessworld.py) out of the Statement's table words and the real class files: 22 classes; the members and pool entries that the words name. The judged class is class 1, her method 3. -/
namespace start1
open Jvm.ClassFile
def u (s : String) : CpInfo := .utf8 (stringToUtf16 s)
/-- a pool by its gaps: so many unusable entries, then the entry; so many at the end -/
def gap : Nat → List CpInfo → List CpInfo
  | 0, r => r
  | n + 1, r => .unusable :: gap n r
def poolList (es : List (Nat × CpInfo)) (last : Nat) : List CpInfo := es.foldr (fun e r => gap e.1 (e.2 :: r)) (gap last [])
def pool (es : List (Nat × CpInfo)) (last : Nat) : Array CpInfo := ⟨poolList es last⟩
def fileOf (pool : Array CpInfo) (this : Nat) (attrs : Array Attribute := #[]) (ms : Array MethodInfo := #[]) (fl : Nat := 33) (sup : Nat := 0) (ifs : Array Nat := #[]) (fds : Array FieldInfo := #[]) : ClassFile where
  minorVersion := 0
  majorVersion := 65
  constantPool := pool
  accessFlags := fl
  thisClass := this
  superClass := sup
  interfaces := ifs
  fields := fds
  methods := ms
  attributes := attrs
def plain (name : String) (sup : Option ClassId) : Class where
  name := name
  kind := .ordinary
  loader := none
  accessFlags := 33
  super := sup
  interfaces := #[]
  cf := none
  fields := #[]
  methods := #[]
  instanceTypes := #[]
  staticTypes := #[]
  resolved := #[]
  callSites := []
  init := .initialized
  statics := none
  mirror := none

def pool0 : Array CpInfo := pool [(5, u "<init>"), (0, u "()V"), (1, .class_ 10), (1, u "java/lang/Object")] 113

def k0c0 : Code := { maxStack := 0, maxLocals := 1, code := object_method_1_code, exceptionTable := #[], attributes := #[] }
def k0m0 : Method := { name := "<init>", desc := "()V", sig := { parameters := [], returnType := none }, accessFlags := 1, code := some k0c0 }
/-- java/lang/Object -/
def k0 : Class := { plain "java/lang/Object" none with
  accessFlags := 33
  interfaces := #[]
  cf := some (fileOf pool0 8 #[] #[{ accessFlags := 1, nameIndex := 5, descriptorIndex := 6, attributes := #[] }] 33 0 #[] #[])
  fields := #[]
  methods := #[k0m0]
  instanceTypes := #[]
  staticTypes := #[]
  resolved := Array.replicate 124 none
  statics := none }

def pool1 : Array CpInfo := pool [(2, .class_ 4), (1, u "java/lang/Object"), (0, u "<init>"), (0, u "()V"), (0, .string 8), (0, u "x-sparql-anything:"), (0, .methodref 10 11), (0, .class_ 12), (0, .nameAndType 13 14), (0, u "java/lang/String"), (0, u "charAt"), (0, u "(I)C"), (0, .methodref 16 17), (0, .class_ 18), (0, .nameAndType 19 14), (0, u "com/example/veneer/veneer/ServiceIriIsServiceIriPinLaw"), (0, u "pre"), (0, .methodref 16 21), (0, .nameAndType 22 23), (0, u "at"), (0, u "(IIICI)C"), (0, .methodref 10 25), (0, .nameAndType 5 26), (0, u "([C)V"), (0, .methodref 10 28), (0, .nameAndType 29 30), (0, u "valueOf"), (0, u "(C)Ljava/lang/String;"), (0, .methodref 32 33), (0, .class_ 34), (0, .nameAndType 35 36), (0, u "com/example/veneer/veneer/ServiceIri"), (0, u "isServiceIri"), (0, u "(Ljava/lang/String;)Z"), (3, u "law"), (0, u "(IIIII)Z")] 4

def k1m0 : Method := { name := "<init>", desc := "()V", sig := { parameters := [], returnType := none }, accessFlags := 1, code := none }
def k1c1 : Code := { maxStack := 2, maxLocals := 1, code := method_2_code, exceptionTable := #[], attributes := #[] }
def k1m1 : Method := { name := "pre", desc := "(I)C", sig := { parameters := [.int], returnType := some .char }, accessFlags := 10, code := some k1c1 }
def k1c2 : Code := { maxStack := 3, maxLocals := 6, code := method_3_code, exceptionTable := #[], attributes := #[] }
def k1m2 : Method := { name := "at", desc := "(IIICI)C", sig := { parameters := [.int, .int, .int, .char, .int], returnType := some .char }, accessFlags := 10, code := some k1c2 }
def k1c3 : Code := { maxStack := 8, maxLocals := 14, code := code, exceptionTable := #[], attributes := #[] }
def k1m3 : Method := { name := "law", desc := "(IIIII)Z", sig := { parameters := [.int, .int, .int, .int, .int], returnType := some .boolean }, accessFlags := 9, code := some k1c3 }
/-- com/example/veneer/veneer/ServiceIriIsServiceIriPinLaw -/
def k1 : Class := { plain "com/example/veneer/veneer/ServiceIriIsServiceIriPinLaw" (some 0) with
  accessFlags := 49
  interfaces := #[]
  cf := some (fileOf pool1 16 #[] #[{ accessFlags := 1, nameIndex := 5, descriptorIndex := 6, attributes := #[] }, { accessFlags := 10, nameIndex := 19, descriptorIndex := 14, attributes := #[] }, { accessFlags := 10, nameIndex := 22, descriptorIndex := 23, attributes := #[] }, { accessFlags := 9, nameIndex := 40, descriptorIndex := 41, attributes := #[] }] 49 2 #[] #[])
  fields := #[]
  methods := #[k1m0, k1m1, k1m2, k1m3]
  instanceTypes := #[]
  staticTypes := #[]
  resolved := Array.replicate 46 none
  statics := none }

def pool2 : Array CpInfo := pool [(1, .class_ 2), (0, u "java/io/Serializable"), (0, .class_ 4), (0, u "java/lang/Object")] 2

/-- java/io/Serializable -/
def k2 : Class := { plain "java/io/Serializable" (some 0) with
  accessFlags := 1537
  interfaces := #[]
  cf := some (fileOf pool2 1 #[] #[] 1537 3 #[] #[])
  fields := #[]
  methods := #[]
  instanceTypes := #[]
  staticTypes := #[]
  resolved := Array.replicate 7 none
  statics := none }

def pool3 : Array CpInfo := pool [(1, .class_ 2), (0, u "java/lang/Comparable"), (0, .class_ 4), (0, u "java/lang/Object")] 7

/-- java/lang/Comparable -/
def k3 : Class := { plain "java/lang/Comparable" (some 0) with
  accessFlags := 1537
  interfaces := #[]
  cf := some (fileOf pool3 1 #[] #[] 1537 3 #[] #[])
  fields := #[]
  methods := #[]
  instanceTypes := #[]
  staticTypes := #[]
  resolved := Array.replicate 12 none
  statics := none }

def pool4 : Array CpInfo := pool [(2, .class_ 4), (1, u "java/lang/CharSequence"), (42, .class_ 48), (0, u "java/lang/CharSequence$1CodePointIterator"), (10, .class_ 60), (0, u "java/lang/CharSequence$1CharIterator"), (5, .class_ 67), (0, u "java/lang/Object")] 63

/-- java/lang/CharSequence -/
def k4 : Class := { plain "java/lang/CharSequence" (some 0) with
  accessFlags := 1537
  interfaces := #[]
  cf := some (fileOf pool4 2 #[.nestMembers #[47, 59]] #[] 1537 66 #[] #[])
  fields := #[]
  methods := #[]
  instanceTypes := #[]
  staticTypes := #[]
  resolved := Array.replicate 131 none
  statics := none }

def pool5 : Array CpInfo := pool [(1, .class_ 2), (0, u "java/lang/constant/Constable"), (0, .class_ 4), (0, u "java/lang/Object")] 6

/-- java/lang/constant/Constable -/
def k5 : Class := { plain "java/lang/constant/Constable" (some 0) with
  accessFlags := 1537
  interfaces := #[]
  cf := some (fileOf pool5 1 #[] #[] 1537 3 #[] #[])
  fields := #[]
  methods := #[]
  instanceTypes := #[]
  staticTypes := #[]
  resolved := Array.replicate 11 none
  statics := none }

def pool6 : Array CpInfo := pool [(1, .class_ 2), (0, u "java/lang/constant/ConstantDesc"), (0, .class_ 4), (0, u "java/lang/Object")] 32

/-- java/lang/constant/ConstantDesc -/
def k6 : Class := { plain "java/lang/constant/ConstantDesc" (some 0) with
  accessFlags := 1537
  interfaces := #[]
  cf := some (fileOf pool6 1 #[] #[] 1537 3 #[] #[])
  fields := #[]
  methods := #[]
  instanceTypes := #[]
  staticTypes := #[]
  resolved := Array.replicate 37 none
  statics := none }

def pool7 : Array CpInfo := pool [(1, .methodref 2 3), (0, .class_ 4), (0, .nameAndType 5 6), (0, u "java/lang/Object"), (0, u "<init>"), (0, u "()V"), (2, .fieldref 10 11), (0, .class_ 12), (0, .nameAndType 13 14), (0, u "java/lang/String"), (0, u "value"), (0, u "[B"), (0, .fieldref 10 16), (0, .nameAndType 17 18), (0, u "coder"), (0, u "B"), (2, u "hash"), (0, u "I"), (2, u "hashIsZero"), (0, u "Z"), (0, .methodref 10 28), (0, .nameAndType 5 29), (0, u "([CIILjava/lang/Void;)V"), (8, .fieldref 10 39), (0, .nameAndType 40 26), (0, u "COMPACT_STRINGS"), (1, .class_ 44), (1, u "java/lang/StringUTF16"), (0, u "compress"), (1, .methodref 42 48), (0, .nameAndType 49 50), (0, u "coderFromArrayLen"), (0, u "([BI)B"), (2, u "toBytes"), (53, .class_ 109), (1, u "java/lang/StringLatin1"), (32, u "()Z"), (34, .methodref 42 178), (0, .nameAndType 45 179), (0, u "([CII)[B"), (29, .methodref 10 210), (0, .nameAndType 5 211), (0, u "([BB)V"), (122, u "()I"), (0, .methodref 10 336), (0, .nameAndType 17 337), (0, u "()B"), (25, u "([BI)C"), (5, u "(C)Z"), (21, u "(II)V"), (35, u "(I)C"), (64, .methodref 10 493), (0, .nameAndType 494 142), (0, u "isLatin1"), (0, .methodref 107 496), (0, .nameAndType 497 363), (0, u "charAt"), (3, u "checkIndex"), (3, .methodref 10 506), (0, .nameAndType 507 334), (0, u "length"), (67, .class_ 576), (0, u "java/lang/CharSequence"), (7, u "regionMatches"), (0, u "(ZILjava/lang/String;II)Z"), (13, u "CASE_INSENSITIVE_ORDER"), (0, u "Ljava/util/Comparator;"), (12, .methodref 107 614), (0, .nameAndType 615 616), (0, u "regionMatchesCI"), (0, u "([BI[BII)Z"), (165, u "valueOf"), (0, u "(C)Ljava/lang/String;"), (226, u "([C)V"), (4, .methodref 107 1016), (0, .nameAndType 1017 369), (0, u "canEncode"), (0, .methodref 107 1019), (0, .nameAndType 53 1020), (0, u "(C)[B"), (32, .fieldref 1054 1055), (0, .class_ 1056), (0, .nameAndType 1057 1058), (0, u "jdk/internal/util/Preconditions"), (0, u "SIOOBE_FORMATTER"), (0, u "Ljava/util/function/BiFunction;"), (0, .methodref 1054 1060), (0, .nameAndType 501 1061), (0, u "(IILjava/util/function/BiFunction;)I"), (39, u "serialPersistentFields"), (0, u "[Ljava/io/ObjectStreamField;"), (0, .class_ 1104), (0, u "java/lang/String$CaseInsensitiveComparator"), (1, .class_ 1107), (0, u "java/io/Serializable"), (0, .class_ 1109), (0, u "java/lang/Comparable"), (0, .class_ 1111), (0, u "java/lang/constant/Constable"), (0, .class_ 1113), (0, u "java/lang/constant/ConstantDesc"), (2, u "serialVersionUID"), (0, u "J"), (3, u "REPL"), (0, u "C"), (2, u "LATIN1"), (1, u "UTF16")] 323

def k7m0 : Method := { name := "<init>", desc := "()V", sig := { parameters := [], returnType := none }, accessFlags := 1, code := none }
def k7c1 : Code := { maxStack := 5, maxLocals := 2, code := jdk_42_method_3_code, exceptionTable := #[], attributes := #[] }
def k7m1 : Method := { name := "<init>", desc := "([C)V", sig := { parameters := [(.array .char)], returnType := none }, accessFlags := 1, code := some k7c1 }
def k7c2 : Code := { maxStack := 2, maxLocals := 1, code := jdk_42_method_54_code, exceptionTable := #[], attributes := #[] }
def k7m2 : Method := { name := "length", desc := "()I", sig := { parameters := [], returnType := some .int }, accessFlags := 1, code := some k7c2 }
def k7c3 : Code := { maxStack := 2, maxLocals := 2, code := jdk_42_method_56_code, exceptionTable := #[], attributes := #[] }
def k7m3 : Method := { name := "charAt", desc := "(I)C", sig := { parameters := [.int], returnType := some .char }, accessFlags := 1, code := some k7c3 }
def k7c4 : Code := { maxStack := 6, maxLocals := 9, code := jdk_42_method_74_code, exceptionTable := #[], attributes := #[] }
def k7m4 : Method := { name := "regionMatches", desc := "(ZILjava/lang/String;II)Z", sig := { parameters := [.boolean, .int, (.object "java/lang/String"), .int, .int], returnType := some .boolean }, accessFlags := 1, code := some k7c4 }
def k7c5 : Code := { maxStack := 4, maxLocals := 1, code := jdk_42_method_139_code, exceptionTable := #[], attributes := #[] }
def k7m5 : Method := { name := "valueOf", desc := "(C)Ljava/lang/String;", sig := { parameters := [.char], returnType := some (.object "java/lang/String") }, accessFlags := 9, code := some k7c5 }
def k7c6 : Code := { maxStack := 4, maxLocals := 6, code := jdk_42_method_149_code, exceptionTable := #[], attributes := #[] }
def k7m6 : Method := { name := "<init>", desc := "([CIILjava/lang/Void;)V", sig := { parameters := [(.array .char), .int, .int, (.object "java/lang/Void")], returnType := none }, accessFlags := 2, code := some k7c6 }
def k7c7 : Code := { maxStack := 2, maxLocals := 3, code := jdk_42_method_151_code, exceptionTable := #[], attributes := #[] }
def k7m7 : Method := { name := "<init>", desc := "([BB)V", sig := { parameters := [(.array .byte), .byte], returnType := none }, accessFlags := 0, code := some k7c7 }
def k7c8 : Code := { maxStack := 1, maxLocals := 1, code := jdk_42_method_152_code, exceptionTable := #[], attributes := #[] }
def k7m8 : Method := { name := "coder", desc := "()B", sig := { parameters := [], returnType := some .byte }, accessFlags := 0, code := some k7c8 }
def k7c9 : Code := { maxStack := 1, maxLocals := 1, code := jdk_42_method_154_code, exceptionTable := #[], attributes := #[] }
def k7m9 : Method := { name := "isLatin1", desc := "()Z", sig := { parameters := [], returnType := some .boolean }, accessFlags := 0, code := some k7c9 }
def k7c10 : Code := { maxStack := 3, maxLocals := 2, code := jdk_42_method_155_code, exceptionTable := #[], attributes := #[] }
def k7m10 : Method := { name := "checkIndex", desc := "(II)V", sig := { parameters := [.int, .int], returnType := none }, accessFlags := 8, code := some k7c10 }
/-- java/lang/String -/
def k7 : Class := { plain "java/lang/String" (some 0) with
  accessFlags := 49
  interfaces := #[2, 3, 4, 5, 6]
  cf := some (fileOf pool7 10 #[.nestMembers #[1103]] #[{ accessFlags := 1, nameIndex := 5, descriptorIndex := 6, attributes := #[] }, { accessFlags := 1, nameIndex := 5, descriptorIndex := 1010, attributes := #[] }, { accessFlags := 1, nameIndex := 507, descriptorIndex := 334, attributes := #[] }, { accessFlags := 1, nameIndex := 497, descriptorIndex := 427, attributes := #[] }, { accessFlags := 1, nameIndex := 584, descriptorIndex := 585, attributes := #[] }, { accessFlags := 9, nameIndex := 782, descriptorIndex := 783, attributes := #[] }, { accessFlags := 2, nameIndex := 5, descriptorIndex := 29, attributes := #[] }, { accessFlags := 0, nameIndex := 5, descriptorIndex := 211, attributes := #[] }, { accessFlags := 0, nameIndex := 17, descriptorIndex := 337, attributes := #[] }, { accessFlags := 0, nameIndex := 494, descriptorIndex := 142, attributes := #[] }, { accessFlags := 8, nameIndex := 501, descriptorIndex := 391, attributes := #[] }] 49 2 #[1106, 1108, 575, 1110, 1112] #[{ accessFlags := 18, nameIndex := 13, descriptorIndex := 14, attributes := #[] }, { accessFlags := 18, nameIndex := 17, descriptorIndex := 18, attributes := #[] }, { accessFlags := 2, nameIndex := 21, descriptorIndex := 22, attributes := #[] }, { accessFlags := 2, nameIndex := 25, descriptorIndex := 26, attributes := #[] }, { accessFlags := 26, nameIndex := 1116, descriptorIndex := 1117, attributes := #[] }, { accessFlags := 24, nameIndex := 40, descriptorIndex := 26, attributes := #[] }, { accessFlags := 26, nameIndex := 1101, descriptorIndex := 1102, attributes := #[] }, { accessFlags := 26, nameIndex := 1121, descriptorIndex := 1122, attributes := #[] }, { accessFlags := 25, nameIndex := 599, descriptorIndex := 600, attributes := #[] }, { accessFlags := 24, nameIndex := 1125, descriptorIndex := 18, attributes := #[] }, { accessFlags := 24, nameIndex := 1127, descriptorIndex := 18, attributes := #[] }])
  fields := #[{ name := "value", type := (.array .byte), accessFlags := 18, slot := 0, constantValue := 0 }, { name := "coder", type := .byte, accessFlags := 18, slot := 1, constantValue := 0 }, { name := "hash", type := .int, accessFlags := 2, slot := 2, constantValue := 0 }, { name := "hashIsZero", type := .boolean, accessFlags := 2, slot := 3, constantValue := 0 }, { name := "serialVersionUID", type := .long, accessFlags := 26, slot := 0, constantValue := 0 }, { name := "COMPACT_STRINGS", type := .boolean, accessFlags := 24, slot := 1, constantValue := 0 }, { name := "serialPersistentFields", type := (.array (.object "java/io/ObjectStreamField")), accessFlags := 26, slot := 2, constantValue := 0 }, { name := "REPL", type := .char, accessFlags := 26, slot := 3, constantValue := 0 }, { name := "CASE_INSENSITIVE_ORDER", type := (.object "java/util/Comparator"), accessFlags := 25, slot := 4, constantValue := 0 }, { name := "LATIN1", type := .byte, accessFlags := 24, slot := 5, constantValue := 0 }, { name := "UTF16", type := .byte, accessFlags := 24, slot := 6, constantValue := 0 }]
  methods := #[k7m0, k7m1, k7m2, k7m3, k7m4, k7m5, k7m6, k7m7, k7m8, k7m9, k7m10]
  instanceTypes := #[(.array .byte), .byte, .int, .boolean]
  staticTypes := #[.long, .boolean, (.array (.object "java/io/ObjectStreamField")), .char, (.object "java/util/Comparator"), .byte, .byte]
  resolved := Array.replicate 1451 none
  statics := some 0 }

def pool8 : Array CpInfo := pool [(1, .class_ 2), (0, u "java/lang/String"), (1, .class_ 6), (1, u "java/lang/Object"), (0, u "<init>"), (0, u "()V"), (0, .methodref 1 10), (0, .nameAndType 11 12), (0, u "checkIndex"), (0, u "(II)V"), (1, .class_ 16), (1, u "java/lang/StringLatin1"), (36, u "([BI)C"), (13, .class_ 69), (1, u "java/lang/CharacterDataLatin1"), (20, u "canEncode"), (14, u "(C)Z"), (15, u "$assertionsDisabled"), (0, u "Z"), (30, .methodref 67 154), (0, .nameAndType 155 156), (0, u "equalsIgnoreCase"), (0, u "(BB)Z"), (64, .class_ 223), (1, u "java/lang/StringLatin1$LinesSpliterator"), (28, u "charAt"), (87, u "regionMatchesCI"), (0, u "([BI[BII)Z"), (38, u "toBytes"), (1, u "(C)[B"), (7, .class_ 391), (0, u "java/lang/StringLatin1$CharsSpliterator")] 3

def k8m0 : Method := { name := "<init>", desc := "()V", sig := { parameters := [], returnType := none }, accessFlags := 0, code := none }
def k8c1 : Code := { maxStack := 2, maxLocals := 2, code := jdk_43_method_2_code, exceptionTable := #[], attributes := #[] }
def k8m1 : Method := { name := "charAt", desc := "([BI)C", sig := { parameters := [(.array .byte), .int], returnType := some .char }, accessFlags := 9, code := some k8c1 }
def k8c2 : Code := { maxStack := 2, maxLocals := 1, code := jdk_43_method_3_code, exceptionTable := #[], attributes := #[] }
def k8m2 : Method := { name := "canEncode", desc := "(C)Z", sig := { parameters := [.char], returnType := some .boolean }, accessFlags := 9, code := some k8c2 }
def k8c3 : Code := { maxStack := 2, maxLocals := 8, code := jdk_43_method_30_code, exceptionTable := #[], attributes := #[] }
def k8m3 : Method := { name := "regionMatchesCI", desc := "([BI[BII)Z", sig := { parameters := [(.array .byte), .int, (.array .byte), .int, .int], returnType := some .boolean }, accessFlags := 9, code := some k8c3 }
def k8c4 : Code := { maxStack := 4, maxLocals := 1, code := jdk_43_method_46_code, exceptionTable := #[], attributes := #[] }
def k8m4 : Method := { name := "toBytes", desc := "(C)[B", sig := { parameters := [.char], returnType := some (.array .byte) }, accessFlags := 9, code := some k8c4 }
/-- java/lang/StringLatin1 -/
def k8 : Class := { plain "java/lang/StringLatin1" (some 0) with
  accessFlags := 48
  interfaces := #[]
  cf := some (fileOf pool8 14 #[.nestMembers #[390, 221]] #[{ accessFlags := 0, nameIndex := 7, descriptorIndex := 8, attributes := #[] }, { accessFlags := 9, nameIndex := 252, descriptorIndex := 53, attributes := #[] }, { accessFlags := 9, nameIndex := 90, descriptorIndex := 105, attributes := #[] }, { accessFlags := 9, nameIndex := 340, descriptorIndex := 341, attributes := #[] }, { accessFlags := 9, nameIndex := 380, descriptorIndex := 382, attributes := #[] }] 48 4 #[] #[{ accessFlags := 4120, nameIndex := 121, descriptorIndex := 122, attributes := #[] }])
  fields := #[{ name := "$assertionsDisabled", type := .boolean, accessFlags := 4120, slot := 0, constantValue := 0 }]
  methods := #[k8m0, k8m1, k8m2, k8m3, k8m4]
  instanceTypes := #[]
  staticTypes := #[.boolean]
  resolved := Array.replicate 395 none
  statics := none }

def pool9 : Array CpInfo := pool [(2, .class_ 4), (1, u "java/lang/Object"), (0, u "<init>"), (0, u "()V"), (17, .class_ 26), (1, u "jdk/internal/util/Preconditions"), (6, u "checkIndex"), (21, .class_ 56), (0, u "jdk/internal/util/Preconditions$4"), (57, .class_ 115), (0, u "jdk/internal/util/Preconditions$1"), (7, u "SIOOBE_FORMATTER"), (0, u "Ljava/util/function/BiFunction;"), (0, .class_ 126), (0, u "jdk/internal/util/Preconditions$2"), (3, u "AIOOBE_FORMATTER"), (0, .class_ 132), (0, u "jdk/internal/util/Preconditions$3"), (3, u "IOOBE_FORMATTER"), (41, u "(IILjava/util/function/BiFunction;)I")] 15

def k9m0 : Method := { name := "<init>", desc := "()V", sig := { parameters := [], returnType := none }, accessFlags := 1, code := none }
def k9c1 : Code := { maxStack := 3, maxLocals := 3, code := jdk_41_method_11_code, exceptionTable := #[], attributes := #[] }
def k9m1 : Method := { name := "checkIndex", desc := "(IILjava/util/function/BiFunction;)I", sig := { parameters := [.int, .int, (.object "java/util/function/BiFunction")], returnType := some .int }, accessFlags := 9, code := some k9c1 }
/-- jdk/internal/util/Preconditions -/
def k9 : Class := { plain "jdk/internal/util/Preconditions" (some 0) with
  accessFlags := 33
  interfaces := #[]
  cf := some (fileOf pool9 24 #[.nestMembers #[55, 131, 125, 114]] #[{ accessFlags := 1, nameIndex := 5, descriptorIndex := 6, attributes := #[] }, { accessFlags := 9, nameIndex := 33, descriptorIndex := 178, attributes := #[] }] 33 2 #[] #[{ accessFlags := 25, nameIndex := 123, descriptorIndex := 124, attributes := #[] }, { accessFlags := 25, nameIndex := 130, descriptorIndex := 124, attributes := #[] }, { accessFlags := 25, nameIndex := 136, descriptorIndex := 124, attributes := #[] }])
  fields := #[{ name := "SIOOBE_FORMATTER", type := (.object "java/util/function/BiFunction"), accessFlags := 25, slot := 0, constantValue := 0 }, { name := "AIOOBE_FORMATTER", type := (.object "java/util/function/BiFunction"), accessFlags := 25, slot := 1, constantValue := 0 }, { name := "IOOBE_FORMATTER", type := (.object "java/util/function/BiFunction"), accessFlags := 25, slot := 2, constantValue := 0 }]
  methods := #[k9m0, k9m1]
  instanceTypes := #[]
  staticTypes := #[(.object "java/util/function/BiFunction"), (.object "java/util/function/BiFunction"), (.object "java/util/function/BiFunction")]
  resolved := Array.replicate 194 none
  statics := some 1 }

def pool10 : Array CpInfo := pool [(6, .class_ 8), (1, u "java/lang/Object"), (0, u "<init>"), (0, u "()V"), (1, .class_ 14), (1, u "java/lang/StringUTF16"), (31, u "$assertionsDisabled"), (0, u "Z"), (13, u "HI_BYTE_SHIFT"), (0, u "I"), (2, u "LO_BYTE_SHIFT"), (49, .methodref 12 116), (0, .nameAndType 117 118), (0, u "compress"), (0, u "([CI[BII)I"), (3, u "([CII)[B"), (138, u "coderFromArrayLen"), (0, u "([BI)B"), (106, .class_ 371), (1, u "java/lang/StringUTF16$LinesSpliterator"), (58, u "MAX_LENGTH"), (196, .class_ 628), (0, u "java/lang/StringUTF16$CodePointsSpliterator"), (0, .class_ 630), (0, u "java/lang/StringUTF16$CharsSpliterator")] 4

def k10m0 : Method := { name := "<init>", desc := "()V", sig := { parameters := [], returnType := none }, accessFlags := 0, code := none }
def k10c1 : Code := { maxStack := 2, maxLocals := 2, code := jdk_52_method_15_code, exceptionTable := #[], attributes := #[] }
def k10m1 : Method := { name := "coderFromArrayLen", desc := "([BI)B", sig := { parameters := [(.array .byte), .int], returnType := some .byte }, accessFlags := 8, code := some k10c1 }
def k10c2 : Code := { maxStack := 5, maxLocals := 6, code := jdk_52_method_16_code, exceptionTable := #[], attributes := #[] }
def k10m2 : Method := { name := "compress", desc := "([CII)[B", sig := { parameters := [(.array .char), .int, .int], returnType := some (.array .byte) }, accessFlags := 9, code := some k10c2 }
def k10c3 : Code := { maxStack := 3, maxLocals := 7, code := jdk_52_method_21_code, exceptionTable := #[], attributes := #[] }
def k10m3 : Method := { name := "compress", desc := "([CI[BII)I", sig := { parameters := [(.array .char), .int, (.array .byte), .int, .int], returnType := some .int }, accessFlags := 9, code := some k10c3 }
/-- java/lang/StringUTF16 -/
def k10 : Class := { plain "java/lang/StringUTF16" (some 0) with
  accessFlags := 48
  interfaces := #[]
  cf := some (fileOf pool10 12 #[.nestMembers #[627, 629, 369]] #[{ accessFlags := 0, nameIndex := 9, descriptorIndex := 10, attributes := #[] }, { accessFlags := 8, nameIndex := 261, descriptorIndex := 262, attributes := #[] }, { accessFlags := 9, nameIndex := 117, descriptorIndex := 122, attributes := #[] }, { accessFlags := 9, nameIndex := 117, descriptorIndex := 118, attributes := #[] }] 48 6 #[] #[{ accessFlags := 26, nameIndex := 61, descriptorIndex := 62, attributes := #[] }, { accessFlags := 26, nameIndex := 65, descriptorIndex := 62, attributes := #[] }, { accessFlags := 24, nameIndex := 430, descriptorIndex := 62, attributes := #[] }, { accessFlags := 4120, nameIndex := 46, descriptorIndex := 47, attributes := #[] }])
  fields := #[{ name := "HI_BYTE_SHIFT", type := .int, accessFlags := 26, slot := 0, constantValue := 0 }, { name := "LO_BYTE_SHIFT", type := .int, accessFlags := 26, slot := 1, constantValue := 0 }, { name := "MAX_LENGTH", type := .int, accessFlags := 24, slot := 2, constantValue := 0 }, { name := "$assertionsDisabled", type := .boolean, accessFlags := 4120, slot := 3, constantValue := 0 }]
  methods := #[k10m0, k10m1, k10m2, k10m3]
  instanceTypes := #[]
  staticTypes := #[.int, .int, .int, .boolean]
  resolved := Array.replicate 635 none
  statics := none }

def pool11 : Array CpInfo := pool [(1, .class_ 2), (0, u "com/example/veneer/veneer/ServiceIri"), (1, .class_ 6), (1, u "java/lang/Object"), (10, u "options"), (0, u "Ljava/util/Map;"), (0, .string 20), (0, u "x-sparql-anything:"), (0, .methodref 22 23), (0, .class_ 24), (0, .nameAndType 25 26), (0, u "java/lang/String"), (0, u "length"), (0, u "()I"), (0, .methodref 22 28), (0, .nameAndType 29 30), (0, u "regionMatches"), (0, u "(ZILjava/lang/String;II)Z"), (2, u "isServiceIri"), (0, u "(Ljava/lang/String;)Z"), (48, u "OPTION_START"), (0, u "Ljava/util/regex/Pattern;"), (21, u "SCHEME"), (0, u "Ljava/lang/String;"), (3, u "LOCATION"), (0, u "PREFIX")] 28

def k11c0 : Code := { maxStack := 6, maxLocals := 1, code := prog_3_method_2_code, exceptionTable := #[], attributes := #[] }
def k11m0 : Method := { name := "isServiceIri", desc := "(Ljava/lang/String;)Z", sig := { parameters := [(.object "java/lang/String")], returnType := some .boolean }, accessFlags := 9, code := some k11c0 }
/-- com/example/veneer/veneer/ServiceIri -/
def k11 : Class := { plain "com/example/veneer/veneer/ServiceIri" (some 0) with
  accessFlags := 49
  interfaces := #[]
  cf := some (fileOf pool11 1 #[] #[{ accessFlags := 9, nameIndex := 33, descriptorIndex := 34, attributes := #[] }] 49 4 #[] #[{ accessFlags := 25, nameIndex := 106, descriptorIndex := 107, attributes := #[] }, { accessFlags := 25, nameIndex := 111, descriptorIndex := 107, attributes := #[] }, { accessFlags := 26, nameIndex := 112, descriptorIndex := 107, attributes := #[] }, { accessFlags := 26, nameIndex := 83, descriptorIndex := 84, attributes := #[] }, { accessFlags := 18, nameIndex := 17, descriptorIndex := 18, attributes := #[] }])
  fields := #[{ name := "SCHEME", type := (.object "java/lang/String"), accessFlags := 25, slot := 0, constantValue := 0 }, { name := "LOCATION", type := (.object "java/lang/String"), accessFlags := 25, slot := 1, constantValue := 0 }, { name := "PREFIX", type := (.object "java/lang/String"), accessFlags := 26, slot := 2, constantValue := 0 }, { name := "OPTION_START", type := (.object "java/util/regex/Pattern"), accessFlags := 26, slot := 3, constantValue := 0 }, { name := "options", type := (.object "java/util/Map"), accessFlags := 18, slot := 0, constantValue := 0 }]
  methods := #[k11m0]
  instanceTypes := #[(.object "java/util/Map")]
  staticTypes := #[(.object "java/lang/String"), (.object "java/lang/String"), (.object "java/lang/String"), (.object "java/util/regex/Pattern")]
  resolved := Array.replicate 141 none
  statics := none }

def pool12 : Array CpInfo := pool [(2, .class_ 4), (1, u "java/lang/Object"), (0, u "<init>"), (0, u "()V"), (1, .class_ 10), (1, u "java/lang/CharacterData")] 75

def k12m0 : Method := { name := "<init>", desc := "()V", sig := { parameters := [], returnType := none }, accessFlags := 0, code := none }
/-- java/lang/CharacterData -/
def k12 : Class := { plain "java/lang/CharacterData" (some 0) with
  accessFlags := 1056
  interfaces := #[]
  cf := some (fileOf pool12 8 #[] #[{ accessFlags := 0, nameIndex := 5, descriptorIndex := 6, attributes := #[] }] 1056 2 #[] #[])
  fields := #[]
  methods := #[k12m0]
  instanceTypes := #[]
  staticTypes := #[]
  resolved := Array.replicate 86 none
  statics := none }

def pool13 : Array CpInfo := pool [(2, .class_ 4), (1, u "java/lang/CharacterDataLatin1"), (0, u "A"), (0, u "[I"), (2, u "B"), (0, u "[C"), (16, u "DIGITS"), (0, u "[B"), (8, u "sharpsMap"), (1, .class_ 41), (1, u "java/lang/CharacterData"), (0, u "<init>"), (0, u "()V"), (3, u "instance"), (0, u "Ljava/lang/CharacterDataLatin1;"), (66, u "equalsIgnoreCase"), (0, u "(BB)Z")] 24

def k13c0 : Code := { maxStack := 3, maxLocals := 3, code := jdk_116_method_22_code, exceptionTable := #[], attributes := #[] }
def k13m0 : Method := { name := "equalsIgnoreCase", desc := "(BB)Z", sig := { parameters := [.byte, .byte], returnType := some .boolean }, accessFlags := 8, code := some k13c0 }
def k13m1 : Method := { name := "<init>", desc := "()V", sig := { parameters := [], returnType := none }, accessFlags := 2, code := none }
/-- java/lang/CharacterDataLatin1 -/
def k13 : Class := { plain "java/lang/CharacterDataLatin1" (some 12) with
  accessFlags := 32
  interfaces := #[]
  cf := some (fileOf pool13 2 #[] #[{ accessFlags := 8, nameIndex := 115, descriptorIndex := 116, attributes := #[] }, { accessFlags := 2, nameIndex := 42, descriptorIndex := 43, attributes := #[] }] 32 39 #[] #[{ accessFlags := 26, nameIndex := 27, descriptorIndex := 28, attributes := #[] }, { accessFlags := 8, nameIndex := 37, descriptorIndex := 10, attributes := #[] }, { accessFlags := 24, nameIndex := 47, descriptorIndex := 48, attributes := #[] }, { accessFlags := 24, nameIndex := 5, descriptorIndex := 6, attributes := #[] }, { accessFlags := 24, nameIndex := 9, descriptorIndex := 10, attributes := #[] }])
  fields := #[{ name := "DIGITS", type := (.array .byte), accessFlags := 26, slot := 0, constantValue := 0 }, { name := "sharpsMap", type := (.array .char), accessFlags := 8, slot := 1, constantValue := 0 }, { name := "instance", type := (.object "java/lang/CharacterDataLatin1"), accessFlags := 24, slot := 2, constantValue := 0 }, { name := "A", type := (.array .int), accessFlags := 24, slot := 3, constantValue := 0 }, { name := "B", type := (.array .char), accessFlags := 24, slot := 4, constantValue := 0 }]
  methods := #[k13m0, k13m1]
  instanceTypes := #[]
  staticTypes := #[(.array .byte), (.array .char), (.object "java/lang/CharacterDataLatin1"), (.array .int), (.array .char)]
  resolved := Array.replicate 141 none
  statics := none }

def pool14 : Array CpInfo := pool [(9, u "<init>"), (6, .class_ 18), (1, u "java/lang/Object"), (0, u "()V"), (1, .class_ 23), (1, u "jdk/internal/util/ArraysSupport"), (0, u "LOG2_ARRAY_LONG_INDEX_SCALE"), (0, u "I"), (2, u "U"), (0, u "Ljdk/internal/misc/Unsafe;"), (8, u "BIG_ENDIAN"), (0, u "Z"), (8, u "LOG2_BYTE_BIT_SIZE"), (4, u "LOG2_ARRAY_INT_INDEX_SCALE"), (54, u "JLA"), (0, u "Ljdk/internal/access/JavaLangAccess;"), (11, u "LOG2_ARRAY_BOOLEAN_INDEX_SCALE"), (9, u "LOG2_ARRAY_BYTE_INDEX_SCALE"), (5, u "LOG2_ARRAY_CHAR_INDEX_SCALE"), (5, u "LOG2_ARRAY_SHORT_INDEX_SCALE"), (18, u "LOG2_ARRAY_FLOAT_INDEX_SCALE"), (24, u "LOG2_ARRAY_DOUBLE_INDEX_SCALE"), (89, u "T_BOOLEAN"), (2, u "T_CHAR"), (1, u "T_FLOAT"), (1, u "T_DOUBLE"), (1, u "T_BYTE"), (1, u "T_SHORT"), (1, u "T_INT"), (1, u "T_LONG"), (1, u "SOFT_MAX_ARRAY_LENGTH")] 83

def k14m0 : Method := { name := "<init>", desc := "()V", sig := { parameters := [], returnType := none }, accessFlags := 2, code := none }
/-- jdk/internal/util/ArraysSupport -/
def k14 : Class := { plain "jdk/internal/util/ArraysSupport" (some 0) with
  accessFlags := 33
  interfaces := #[]
  cf := some (fileOf pool14 21 #[] #[{ accessFlags := 2, nameIndex := 9, descriptorIndex := 19, attributes := #[] }] 33 16 #[] #[{ accessFlags := 24, nameIndex := 28, descriptorIndex := 29, attributes := #[] }, { accessFlags := 26, nameIndex := 38, descriptorIndex := 39, attributes := #[] }, { accessFlags := 25, nameIndex := 121, descriptorIndex := 25, attributes := #[] }, { accessFlags := 25, nameIndex := 131, descriptorIndex := 25, attributes := #[] }, { accessFlags := 25, nameIndex := 137, descriptorIndex := 25, attributes := #[] }, { accessFlags := 25, nameIndex := 143, descriptorIndex := 25, attributes := #[] }, { accessFlags := 25, nameIndex := 53, descriptorIndex := 25, attributes := #[] }, { accessFlags := 25, nameIndex := 24, descriptorIndex := 25, attributes := #[] }, { accessFlags := 25, nameIndex := 162, descriptorIndex := 25, attributes := #[] }, { accessFlags := 25, nameIndex := 187, descriptorIndex := 25, attributes := #[] }, { accessFlags := 26, nameIndex := 48, descriptorIndex := 25, attributes := #[] }, { accessFlags := 25, nameIndex := 277, descriptorIndex := 25, attributes := #[] }, { accessFlags := 25, nameIndex := 280, descriptorIndex := 25, attributes := #[] }, { accessFlags := 25, nameIndex := 282, descriptorIndex := 25, attributes := #[] }, { accessFlags := 25, nameIndex := 284, descriptorIndex := 25, attributes := #[] }, { accessFlags := 25, nameIndex := 286, descriptorIndex := 25, attributes := #[] }, { accessFlags := 25, nameIndex := 288, descriptorIndex := 25, attributes := #[] }, { accessFlags := 25, nameIndex := 290, descriptorIndex := 25, attributes := #[] }, { accessFlags := 25, nameIndex := 292, descriptorIndex := 25, attributes := #[] }, { accessFlags := 26, nameIndex := 108, descriptorIndex := 109, attributes := #[] }, { accessFlags := 25, nameIndex := 294, descriptorIndex := 25, attributes := #[] }])
  fields := #[{ name := "U", type := (.object "jdk/internal/misc/Unsafe"), accessFlags := 24, slot := 0, constantValue := 0 }, { name := "BIG_ENDIAN", type := .boolean, accessFlags := 26, slot := 1, constantValue := 0 }, { name := "LOG2_ARRAY_BOOLEAN_INDEX_SCALE", type := .int, accessFlags := 25, slot := 2, constantValue := 0 }, { name := "LOG2_ARRAY_BYTE_INDEX_SCALE", type := .int, accessFlags := 25, slot := 3, constantValue := 0 }, { name := "LOG2_ARRAY_CHAR_INDEX_SCALE", type := .int, accessFlags := 25, slot := 4, constantValue := 0 }, { name := "LOG2_ARRAY_SHORT_INDEX_SCALE", type := .int, accessFlags := 25, slot := 5, constantValue := 0 }, { name := "LOG2_ARRAY_INT_INDEX_SCALE", type := .int, accessFlags := 25, slot := 6, constantValue := 0 }, { name := "LOG2_ARRAY_LONG_INDEX_SCALE", type := .int, accessFlags := 25, slot := 7, constantValue := 0 }, { name := "LOG2_ARRAY_FLOAT_INDEX_SCALE", type := .int, accessFlags := 25, slot := 8, constantValue := 0 }, { name := "LOG2_ARRAY_DOUBLE_INDEX_SCALE", type := .int, accessFlags := 25, slot := 9, constantValue := 0 }, { name := "LOG2_BYTE_BIT_SIZE", type := .int, accessFlags := 26, slot := 10, constantValue := 0 }, { name := "T_BOOLEAN", type := .int, accessFlags := 25, slot := 11, constantValue := 0 }, { name := "T_CHAR", type := .int, accessFlags := 25, slot := 12, constantValue := 0 }, { name := "T_FLOAT", type := .int, accessFlags := 25, slot := 13, constantValue := 0 }, { name := "T_DOUBLE", type := .int, accessFlags := 25, slot := 14, constantValue := 0 }, { name := "T_BYTE", type := .int, accessFlags := 25, slot := 15, constantValue := 0 }, { name := "T_SHORT", type := .int, accessFlags := 25, slot := 16, constantValue := 0 }, { name := "T_INT", type := .int, accessFlags := 25, slot := 17, constantValue := 0 }, { name := "T_LONG", type := .int, accessFlags := 25, slot := 18, constantValue := 0 }, { name := "JLA", type := (.object "jdk/internal/access/JavaLangAccess"), accessFlags := 26, slot := 19, constantValue := 0 }, { name := "SOFT_MAX_ARRAY_LENGTH", type := .int, accessFlags := 25, slot := 20, constantValue := 0 }]
  methods := #[k14m0]
  instanceTypes := #[]
  staticTypes := #[(.object "jdk/internal/misc/Unsafe"), .boolean, .int, .int, .int, .int, .int, .int, .int, .int, .int, .int, .int, .int, .int, .int, .int, .int, .int, (.object "jdk/internal/access/JavaLangAccess"), .int]
  resolved := Array.replicate 378 none
  statics := none }

def pool15 : Array CpInfo := pool [(1, u "java/lang/Cloneable"), (0, .class_ 1), (0, u "java/lang/Object"), (0, .class_ 3)] 3

/-- java/lang/Cloneable -/
def k15 : Class := { plain "java/lang/Cloneable" (some 0) with
  accessFlags := 1537
  interfaces := #[]
  cf := some (fileOf pool15 2 #[] #[] 1537 4 #[] #[])
  fields := #[]
  methods := #[]
  instanceTypes := #[]
  staticTypes := #[]
  resolved := Array.replicate 8 none
  statics := none }

/-- the primitive byte -/
def k16 : Class := { plain "byte" none with kind := .primitive 'B', accessFlags := 0x411 }
/-- [B -/
def k17 : Class := { plain "[B" (some 0) with kind := .array 16 .byte, interfaces := #[15, 2], accessFlags := 1041 }

/-- the primitive char -/
def k18 : Class := { plain "char" none with kind := .primitive 'C', accessFlags := 0x411 }
/-- [C -/
def k19 : Class := { plain "[C" (some 0) with kind := .array 18 .char, interfaces := #[15, 2], accessFlags := 1041 }

/-- the primitive int -/
def k20 : Class := { plain "int" none with kind := .primitive 'I', accessFlags := 0x411 }
/-- [I -/
def k21 : Class := { plain "[I" (some 0) with kind := .array 20 .int, interfaces := #[15, 2], accessFlags := 1041 }

def heap : Heap := #[{ cls := 7, slots := #[.long 0, .int 1, .null, .int 0, .null, .int 0, .int 0], vm := .statics 7 },
  { cls := 9, slots := #[.null, .null, .null], vm := .statics 9 }]
def classes : Array Class := #[k0, k1, k2, k3, k4, k5, k6, k7, k8, k9, k10, k11, k12, k13, k14, k15, k16, k17, k18, k19, k20, k21]
def interned : List (Array UInt16 × Addr) := []
def slotsUsed : Nat := 10
def theMethod : MethodId := ⟨1, 3⟩
def args0 : Array Value := #[.int 5, .int 3, .int 66, .int 1, .int 7]
def aboutOver (below : List Frame) : State where
  vm := { classes := classes, interned := interned.toArray }
  heap := heap
  slotsUsed := slotsUsed
  threads := #[{ frames := .invoking theMethod args0 :: below }]
def below0 : List Frame := [.native { method := ⟨0, 0⟩, args := #[] }]
def about1 : State := aboutOver below0
def p0 : Program := .bare "" "" ""
def e0 : Env := launch0.env 0 0 0
theorem w_frames : about1.frames = Frame.invoking theMethod args0 :: below0 := rfl
set_option maxRecDepth 65536 in
theorem w_args : argsFit about1.vm theMethod args0 = true := by decide +kernel
set_option maxRecDepth 65536 in
theorem w_heap : heapFits about1 = true := by decide +kernel
set_option maxRecDepth 65536 in
theorem w_runnable : about1.curStatus? = some .runnable := by decide +kernel
set_option maxRecDepth 65536 in
theorem w_alone : about1.alone = true := by decide +kernel
set_option maxRecDepth 65536 in
theorem w_named : about1.methodNamed? x = some theMethod := by decide +kernel
set_option maxRecDepth 65536 in
theorem w_hears : about1.hears theMethod below0 = true := by decide +kernel
set_option maxRecDepth 65536 in
theorem w_ripe : about1.ripe theMethod args0 below0 = true := by decide +kernel
theorem w_running : about1.status = .running := rfl
set_option maxRecDepth 65536 in
theorem w_room : about1.hasRoom e0.platform room_1 = true :=
  launch0.hasRoom_least _ room_1 (by decide +kernel) (by decide +kernel) (by decide +kernel) (by decide +kernel) (by decide +kernel) (by decide +kernel)
theorem allAtoms_all (ts : List Jvm.Cond) (a : Array Jvm.Value) (st : Jvm.State) : (allAtoms ts).before a st = ts.all (fun c => c.before a st) := by
  induction ts with
  | nil => rfl
  | cons c t ih =>
    show (Jvm.Cond.and c (allAtoms t)).before a st = _
    rw [Jvm.Cond.before_and, ih, List.all_cons]
def words1 : List Jvm.Cond := Jvm.Cond.code x code maxLocals ret :: tables_1
/-- a 'code' word, met by the world's own term for the bytes: nothing is compared byte by byte -/
theorem code_word {y : MethodName} {bytes : ByteArray} {mx : Nat} {rt : Option FieldType} {a : Array Value} {s : State} {m : MethodId} {meth : Method} {c : Code} (h1 : s.methodNamed? y = some m) (h2 : s.vm.method? m = some meth) (h3 : meth.code = some c) (h4 : c.code = bytes)
    (h5 : (c.maxLocals == mx && c.exceptionTable.isEmpty && decide (c.maxStack ≤ mostOperands) && decide (meth.sig.returnType = rt) && !meth.locks && decide (parseMethodDescriptor y.desc = some meth.sig)) = true) : (Jvm.Cond.code y bytes mx rt).before a s = true := by
  simp only [Bool.and_eq_true, beq_iff_eq, Bool.not_eq_true', decide_eq_true_eq] at h5
  obtain ⟨⟨⟨⟨⟨g1, g2⟩, g3⟩, g4⟩, g5⟩, g6⟩ := h5
  simp [Cond.before, Cond.holds, Cond.value, h1, h2, h3, h4, g1, g2, g3, g4, g5, g6]
def isCode : Jvm.Cond → Bool
  | .code _ _ _ _ => true
  | _ => false
theorem all_split {L : List Jvm.Cond} {P : Jvm.Cond → Bool} (h1 : L.all (fun c => isCode c || P c) = true) (h2 : ∀ c ∈ L.filter isCode, P c = true) : L.all P = true := by
  refine List.all_eq_true.mpr fun c hc => ?_
  have h := List.all_eq_true.mp h1 c hc
  rcases Bool.eq_false_or_eq_true (isCode c) with hi | hi
  · exact h2 c (List.mem_filter.mpr ⟨hc, hi⟩)
  · simpa [hi] using h
set_option maxRecDepth 65536 in
theorem w_c0 : (Jvm.Cond.code x code maxLocals ret).before args0 about1 = true := code_word (m := ⟨1, 3⟩) (meth := k1m3) (c := k1c3) (by decide +kernel) rfl rfl rfl (by decide +kernel)
set_option maxRecDepth 65536 in
theorem w_c1 : (Jvm.Cond.code ({ cls := "com/example/veneer/veneer/ServiceIriIsServiceIriPinLaw", name := "at", desc := "(IIICI)C" } : Jvm.MethodName) method_3_code (6 : Nat) (Option.some Jvm.ClassFile.FieldType.char)).before args0 about1 = true := code_word (m := ⟨1, 2⟩) (meth := k1m2) (c := k1c2) (by decide +kernel) rfl rfl rfl (by decide +kernel)
set_option maxRecDepth 65536 in
theorem w_c2 : (Jvm.Cond.code ({ cls := "com/example/veneer/veneer/ServiceIriIsServiceIriPinLaw", name := "pre", desc := "(I)C" } : Jvm.MethodName) method_2_code (1 : Nat) (Option.some Jvm.ClassFile.FieldType.char)).before args0 about1 = true := code_word (m := ⟨1, 1⟩) (meth := k1m1) (c := k1c1) (by decide +kernel) rfl rfl rfl (by decide +kernel)
set_option maxRecDepth 65536 in
theorem w_c3 : (Jvm.Cond.code ({ cls := "java/lang/String", name := "charAt", desc := "(I)C" } : Jvm.MethodName) jdk_42_method_56_code (2 : Nat) (Option.some Jvm.ClassFile.FieldType.char)).before args0 about1 = true := code_word (m := ⟨7, 3⟩) (meth := k7m3) (c := k7c3) (by decide +kernel) rfl rfl rfl (by decide +kernel)
set_option maxRecDepth 65536 in
theorem w_c4 : (Jvm.Cond.code ({ cls := "java/lang/String", name := "isLatin1", desc := "()Z" } : Jvm.MethodName) jdk_42_method_154_code (1 : Nat) (Option.some Jvm.ClassFile.FieldType.boolean)).before args0 about1 = true := code_word (m := ⟨7, 9⟩) (meth := k7m9) (c := k7c9) (by decide +kernel) rfl rfl rfl (by decide +kernel)
set_option maxRecDepth 65536 in
theorem w_c5 : (Jvm.Cond.code ({ cls := "java/lang/StringLatin1", name := "charAt", desc := "([BI)C" } : Jvm.MethodName) jdk_43_method_2_code (2 : Nat) (Option.some Jvm.ClassFile.FieldType.char)).before args0 about1 = true := code_word (m := ⟨8, 1⟩) (meth := k8m1) (c := k8c1) (by decide +kernel) rfl rfl rfl (by decide +kernel)
set_option maxRecDepth 65536 in
theorem w_c6 : (Jvm.Cond.code ({ cls := "java/lang/String", name := "checkIndex", desc := "(II)V" } : Jvm.MethodName) jdk_42_method_155_code (2 : Nat) (Option.none : Option Jvm.ClassFile.FieldType)).before args0 about1 = true := code_word (m := ⟨7, 10⟩) (meth := k7m10) (c := k7c10) (by decide +kernel) rfl rfl rfl (by decide +kernel)
set_option maxRecDepth 65536 in
theorem w_c7 : (Jvm.Cond.code ({ cls := "jdk/internal/util/Preconditions", name := "checkIndex", desc := "(IILjava/util/function/BiFunction;)I" } : Jvm.MethodName) jdk_41_method_11_code (3 : Nat) (Option.some Jvm.ClassFile.FieldType.int)).before args0 about1 = true := code_word (m := ⟨9, 1⟩) (meth := k9m1) (c := k9c1) (by decide +kernel) rfl rfl rfl (by decide +kernel)
set_option maxRecDepth 65536 in
theorem w_c8 : (Jvm.Cond.code ({ cls := "java/lang/String", name := "<init>", desc := "([C)V" } : Jvm.MethodName) jdk_42_method_3_code (2 : Nat) (Option.none : Option Jvm.ClassFile.FieldType)).before args0 about1 = true := code_word (m := ⟨7, 1⟩) (meth := k7m1) (c := k7c1) (by decide +kernel) rfl rfl rfl (by decide +kernel)
set_option maxRecDepth 65536 in
theorem w_c9 : (Jvm.Cond.code ({ cls := "java/lang/String", name := "<init>", desc := "([CIILjava/lang/Void;)V" } : Jvm.MethodName) jdk_42_method_149_code (6 : Nat) (Option.none : Option Jvm.ClassFile.FieldType)).before args0 about1 = true := code_word (m := ⟨7, 6⟩) (meth := k7m6) (c := k7c6) (by decide +kernel) rfl rfl rfl (by decide +kernel)
set_option maxRecDepth 65536 in
theorem w_c10 : (Jvm.Cond.code ({ cls := "java/lang/Object", name := "<init>", desc := "()V" } : Jvm.MethodName) object_method_1_code (1 : Nat) (Option.none : Option Jvm.ClassFile.FieldType)).before args0 about1 = true := code_word (m := ⟨0, 0⟩) (meth := k0m0) (c := k0c0) (by decide +kernel) rfl rfl rfl (by decide +kernel)
set_option maxRecDepth 65536 in
theorem w_c11 : (Jvm.Cond.code ({ cls := "java/lang/StringUTF16", name := "compress", desc := "([CII)[B" } : Jvm.MethodName) jdk_52_method_16_code (6 : Nat) (Option.some (Jvm.ClassFile.FieldType.array Jvm.ClassFile.FieldType.byte))).before args0 about1 = true := code_word (m := ⟨10, 2⟩) (meth := k10m2) (c := k10c2) (by decide +kernel) rfl rfl rfl (by decide +kernel)
set_option maxRecDepth 65536 in
theorem w_c12 : (Jvm.Cond.code ({ cls := "java/lang/StringUTF16", name := "compress", desc := "([CI[BII)I" } : Jvm.MethodName) jdk_52_method_21_code (7 : Nat) (Option.some Jvm.ClassFile.FieldType.int)).before args0 about1 = true := code_word (m := ⟨10, 3⟩) (meth := k10m3) (c := k10c3) (by decide +kernel) rfl rfl rfl (by decide +kernel)
set_option maxRecDepth 65536 in
theorem w_c13 : (Jvm.Cond.code ({ cls := "java/lang/StringUTF16", name := "coderFromArrayLen", desc := "([BI)B" } : Jvm.MethodName) jdk_52_method_15_code (2 : Nat) (Option.some Jvm.ClassFile.FieldType.byte)).before args0 about1 = true := code_word (m := ⟨10, 1⟩) (meth := k10m1) (c := k10c1) (by decide +kernel) rfl rfl rfl (by decide +kernel)
set_option maxRecDepth 65536 in
theorem w_c14 : (Jvm.Cond.code ({ cls := "com/example/veneer/veneer/ServiceIri", name := "isServiceIri", desc := "(Ljava/lang/String;)Z" } : Jvm.MethodName) prog_3_method_2_code (1 : Nat) (Option.some Jvm.ClassFile.FieldType.boolean)).before args0 about1 = true := code_word (m := ⟨11, 0⟩) (meth := k11m0) (c := k11c0) (by decide +kernel) rfl rfl rfl (by decide +kernel)
set_option maxRecDepth 65536 in
theorem w_c15 : (Jvm.Cond.code ({ cls := "java/lang/String", name := "length", desc := "()I" } : Jvm.MethodName) jdk_42_method_54_code (1 : Nat) (Option.some Jvm.ClassFile.FieldType.int)).before args0 about1 = true := code_word (m := ⟨7, 2⟩) (meth := k7m2) (c := k7c2) (by decide +kernel) rfl rfl rfl (by decide +kernel)
set_option maxRecDepth 65536 in
theorem w_c16 : (Jvm.Cond.code ({ cls := "java/lang/String", name := "coder", desc := "()B" } : Jvm.MethodName) jdk_42_method_152_code (1 : Nat) (Option.some Jvm.ClassFile.FieldType.byte)).before args0 about1 = true := code_word (m := ⟨7, 8⟩) (meth := k7m8) (c := k7c8) (by decide +kernel) rfl rfl rfl (by decide +kernel)
set_option maxRecDepth 65536 in
theorem w_c17 : (Jvm.Cond.code ({ cls := "java/lang/String", name := "regionMatches", desc := "(ZILjava/lang/String;II)Z" } : Jvm.MethodName) jdk_42_method_74_code (9 : Nat) (Option.some Jvm.ClassFile.FieldType.boolean)).before args0 about1 = true := code_word (m := ⟨7, 4⟩) (meth := k7m4) (c := k7c4) (by decide +kernel) rfl rfl rfl (by decide +kernel)
set_option maxRecDepth 65536 in
theorem w_c18 : (Jvm.Cond.code ({ cls := "java/lang/StringLatin1", name := "regionMatchesCI", desc := "([BI[BII)Z" } : Jvm.MethodName) jdk_43_method_30_code (8 : Nat) (Option.some Jvm.ClassFile.FieldType.boolean)).before args0 about1 = true := code_word (m := ⟨8, 3⟩) (meth := k8m3) (c := k8c3) (by decide +kernel) rfl rfl rfl (by decide +kernel)
set_option maxRecDepth 65536 in
theorem w_c19 : (Jvm.Cond.code ({ cls := "java/lang/CharacterDataLatin1", name := "equalsIgnoreCase", desc := "(BB)Z" } : Jvm.MethodName) jdk_116_method_22_code (3 : Nat) (Option.some Jvm.ClassFile.FieldType.boolean)).before args0 about1 = true := code_word (m := ⟨13, 0⟩) (meth := k13m0) (c := k13c0) (by decide +kernel) rfl rfl rfl (by decide +kernel)
set_option maxRecDepth 65536 in
theorem w_c20 : (Jvm.Cond.code ({ cls := "java/lang/String", name := "valueOf", desc := "(C)Ljava/lang/String;" } : Jvm.MethodName) jdk_42_method_139_code (1 : Nat) (Option.some (Jvm.ClassFile.FieldType.object "java/lang/String"))).before args0 about1 = true := code_word (m := ⟨7, 5⟩) (meth := k7m5) (c := k7c5) (by decide +kernel) rfl rfl rfl (by decide +kernel)
set_option maxRecDepth 65536 in
theorem w_c21 : (Jvm.Cond.code ({ cls := "java/lang/StringLatin1", name := "canEncode", desc := "(C)Z" } : Jvm.MethodName) jdk_43_method_3_code (1 : Nat) (Option.some Jvm.ClassFile.FieldType.boolean)).before args0 about1 = true := code_word (m := ⟨8, 2⟩) (meth := k8m2) (c := k8c2) (by decide +kernel) rfl rfl rfl (by decide +kernel)
set_option maxRecDepth 65536 in
theorem w_c22 : (Jvm.Cond.code ({ cls := "java/lang/StringLatin1", name := "toBytes", desc := "(C)[B" } : Jvm.MethodName) jdk_43_method_46_code (1 : Nat) (Option.some (Jvm.ClassFile.FieldType.array Jvm.ClassFile.FieldType.byte))).before args0 about1 = true := code_word (m := ⟨8, 4⟩) (meth := k8m4) (c := k8c4) (by decide +kernel) rfl rfl rfl (by decide +kernel)
set_option maxRecDepth 65536 in
theorem w_c23 : (Jvm.Cond.code ({ cls := "java/lang/String", name := "<init>", desc := "([BB)V" } : Jvm.MethodName) jdk_42_method_151_code (3 : Nat) (Option.none : Option Jvm.ClassFile.FieldType)).before args0 about1 = true := code_word (m := ⟨7, 7⟩) (meth := k7m7) (c := k7c7) (by decide +kernel) rfl rfl rfl (by decide +kernel)
def codes1 : List Jvm.Cond := [Jvm.Cond.code x code maxLocals ret, Jvm.Cond.code ({ cls := "com/example/veneer/veneer/ServiceIriIsServiceIriPinLaw", name := "at", desc := "(IIICI)C" } : Jvm.MethodName) method_3_code (6 : Nat) (Option.some Jvm.ClassFile.FieldType.char), Jvm.Cond.code ({ cls := "com/example/veneer/veneer/ServiceIriIsServiceIriPinLaw", name := "pre", desc := "(I)C" } : Jvm.MethodName) method_2_code (1 : Nat) (Option.some Jvm.ClassFile.FieldType.char), Jvm.Cond.code ({ cls := "java/lang/String", name := "charAt", desc := "(I)C" } : Jvm.MethodName) jdk_42_method_56_code (2 : Nat) (Option.some Jvm.ClassFile.FieldType.char), Jvm.Cond.code ({ cls := "java/lang/String", name := "isLatin1", desc := "()Z" } : Jvm.MethodName) jdk_42_method_154_code (1 : Nat) (Option.some Jvm.ClassFile.FieldType.boolean), Jvm.Cond.code ({ cls := "java/lang/StringLatin1", name := "charAt", desc := "([BI)C" } : Jvm.MethodName) jdk_43_method_2_code (2 : Nat) (Option.some Jvm.ClassFile.FieldType.char), Jvm.Cond.code ({ cls := "java/lang/String", name := "checkIndex", desc := "(II)V" } : Jvm.MethodName) jdk_42_method_155_code (2 : Nat) (Option.none : Option Jvm.ClassFile.FieldType), Jvm.Cond.code ({ cls := "jdk/internal/util/Preconditions", name := "checkIndex", desc := "(IILjava/util/function/BiFunction;)I" } : Jvm.MethodName) jdk_41_method_11_code (3 : Nat) (Option.some Jvm.ClassFile.FieldType.int), Jvm.Cond.code ({ cls := "java/lang/String", name := "<init>", desc := "([C)V" } : Jvm.MethodName) jdk_42_method_3_code (2 : Nat) (Option.none : Option Jvm.ClassFile.FieldType), Jvm.Cond.code ({ cls := "java/lang/String", name := "<init>", desc := "([CIILjava/lang/Void;)V" } : Jvm.MethodName) jdk_42_method_149_code (6 : Nat) (Option.none : Option Jvm.ClassFile.FieldType), Jvm.Cond.code ({ cls := "java/lang/Object", name := "<init>", desc := "()V" } : Jvm.MethodName) object_method_1_code (1 : Nat) (Option.none : Option Jvm.ClassFile.FieldType), Jvm.Cond.code ({ cls := "java/lang/StringUTF16", name := "compress", desc := "([CII)[B" } : Jvm.MethodName) jdk_52_method_16_code (6 : Nat) (Option.some (Jvm.ClassFile.FieldType.array Jvm.ClassFile.FieldType.byte)), Jvm.Cond.code ({ cls := "java/lang/StringUTF16", name := "compress", desc := "([CI[BII)I" } : Jvm.MethodName) jdk_52_method_21_code (7 : Nat) (Option.some Jvm.ClassFile.FieldType.int), Jvm.Cond.code ({ cls := "java/lang/StringUTF16", name := "coderFromArrayLen", desc := "([BI)B" } : Jvm.MethodName) jdk_52_method_15_code (2 : Nat) (Option.some Jvm.ClassFile.FieldType.byte), Jvm.Cond.code ({ cls := "com/example/veneer/veneer/ServiceIri", name := "isServiceIri", desc := "(Ljava/lang/String;)Z" } : Jvm.MethodName) prog_3_method_2_code (1 : Nat) (Option.some Jvm.ClassFile.FieldType.boolean), Jvm.Cond.code ({ cls := "java/lang/String", name := "length", desc := "()I" } : Jvm.MethodName) jdk_42_method_54_code (1 : Nat) (Option.some Jvm.ClassFile.FieldType.int), Jvm.Cond.code ({ cls := "java/lang/String", name := "coder", desc := "()B" } : Jvm.MethodName) jdk_42_method_152_code (1 : Nat) (Option.some Jvm.ClassFile.FieldType.byte), Jvm.Cond.code ({ cls := "java/lang/String", name := "regionMatches", desc := "(ZILjava/lang/String;II)Z" } : Jvm.MethodName) jdk_42_method_74_code (9 : Nat) (Option.some Jvm.ClassFile.FieldType.boolean), Jvm.Cond.code ({ cls := "java/lang/StringLatin1", name := "regionMatchesCI", desc := "([BI[BII)Z" } : Jvm.MethodName) jdk_43_method_30_code (8 : Nat) (Option.some Jvm.ClassFile.FieldType.boolean), Jvm.Cond.code ({ cls := "java/lang/CharacterDataLatin1", name := "equalsIgnoreCase", desc := "(BB)Z" } : Jvm.MethodName) jdk_116_method_22_code (3 : Nat) (Option.some Jvm.ClassFile.FieldType.boolean), Jvm.Cond.code ({ cls := "java/lang/String", name := "valueOf", desc := "(C)Ljava/lang/String;" } : Jvm.MethodName) jdk_42_method_139_code (1 : Nat) (Option.some (Jvm.ClassFile.FieldType.object "java/lang/String")), Jvm.Cond.code ({ cls := "java/lang/StringLatin1", name := "canEncode", desc := "(C)Z" } : Jvm.MethodName) jdk_43_method_3_code (1 : Nat) (Option.some Jvm.ClassFile.FieldType.boolean), Jvm.Cond.code ({ cls := "java/lang/StringLatin1", name := "toBytes", desc := "(C)[B" } : Jvm.MethodName) jdk_43_method_46_code (1 : Nat) (Option.some (Jvm.ClassFile.FieldType.array Jvm.ClassFile.FieldType.byte)), Jvm.Cond.code ({ cls := "java/lang/String", name := "<init>", desc := "([BB)V" } : Jvm.MethodName) jdk_42_method_151_code (3 : Nat) (Option.none : Option Jvm.ClassFile.FieldType)]
set_option maxRecDepth 65536 in
theorem codes_eq : words1.filter isCode = codes1 := rfl
theorem w_codes : ∀ c ∈ words1.filter isCode, c.before args0 about1 = true := by
  rw [codes_eq]
  intro c hc
  simp only [codes1, List.mem_cons, List.not_mem_nil, or_false] at hc
  rcases hc with rfl | rfl | rfl | rfl | rfl | rfl | rfl | rfl | rfl | rfl | rfl | rfl | rfl | rfl | rfl | rfl | rfl | rfl | rfl | rfl | rfl | rfl | rfl | rfl
  · exact w_c0
  · exact w_c1
  · exact w_c2
  · exact w_c3
  · exact w_c4
  · exact w_c5
  · exact w_c6
  · exact w_c7
  · exact w_c8
  · exact w_c9
  · exact w_c10
  · exact w_c11
  · exact w_c12
  · exact w_c13
  · exact w_c14
  · exact w_c15
  · exact w_c16
  · exact w_c17
  · exact w_c18
  · exact w_c19
  · exact w_c20
  · exact w_c21
  · exact w_c22
  · exact w_c23
set_option maxRecDepth 65536 in
theorem w_t1 : (words1.take 24).all (fun c => isCode c || c.before args0 about1) = true := by decide +kernel
set_option maxRecDepth 65536 in
theorem w_t2 : ((words1.drop 24).take 24).all (fun c => isCode c || c.before args0 about1) = true := by decide +kernel
set_option maxRecDepth 65536 in
theorem w_t3 : (((words1.drop 24).drop 24).take 24).all (fun c => isCode c || c.before args0 about1) = true := by decide +kernel
set_option maxRecDepth 65536 in
theorem w_t4 : ((((words1.drop 24).drop 24).drop 24).take 24).all (fun c => isCode c || c.before args0 about1) = true := by decide +kernel
set_option maxRecDepth 65536 in
theorem w_t5 : ((((words1.drop 24).drop 24).drop 24).drop 24).all (fun c => isCode c || c.before args0 about1) = true := by decide +kernel
theorem w_tables : (allAtoms (Jvm.Cond.code x code maxLocals ret :: tables_1)).before args0 about1 = true := by
  rw [allAtoms_all]
  show words1.all (fun c => c.before args0 about1) = true
  refine all_split ?_ w_codes
  rw [← List.take_append_drop 24 words1, List.all_append, w_t1, ← List.take_append_drop 24 (words1.drop 24), List.all_append, w_t2, ← List.take_append_drop 24 ((words1.drop 24).drop 24), List.all_append, w_t3, ← List.take_append_drop 24 (((words1.drop 24).drop 24).drop 24), List.all_append, w_t4, w_t5]
  rfl
set_option maxRecDepth 65536 in
theorem w_rest : rest_1_c.before args0 about1 = true := by decide +kernel
set_option maxRecDepth 65536 in
theorem w_case : (Jvm.Cond.and given_1 narrow_1).before args0 about1 = true := by decide +kernel
set_option maxRecDepth 65536 in
theorem w_consts : constsHeld consts_1 about1 := Jvm.Lit.constsHeldB_iff.mp (by decide +kernel)
theorem w_applies : (headSpec (Jvm.Cond.code x code maxLocals ret :: tables_1) room_1).applies x e0.platform about1 = true :=
  (Spec.applies_iff w_frames).mpr ⟨w_running, w_runnable, w_alone, w_named, w_hears, w_ripe, w_room, w_tables⟩
theorem atStart : AtStart classFile x code maxLocals ret World_1 tables_1 room_1 Calls_1 rest_1 Pre_1 launch0 p0 e0 about1 theMethod args0 below0 :=
  ⟨lists_1, trivial, launch0.admits_env _ _ _, launch0.least_env, fairChoices_fair.cas, fairChoices_fair.clock, w_frames, w_args, w_heap, w_applies, ⟨w_consts, trivial⟩, w_rest, w_case⟩
end start1
theorem witness_1 : WitnessClaimed_1 := ⟨start1.p0, start1.e0, start1.about1, start1.theMethod, start1.args0, start1.below0, start1.atStart⟩
end Jvm.Pilot.@@N@@
