import JvmDerived
import JvmDerived.Pilot.@@N@@Statement
import JvmDerived.Pilot.@@N@@Code
set_option linter.unusedVariables false
set_option linter.unusedSimpArgs false
namespace Jvm.Pilot.@@N@@
/-- the frame is the narrow one -/
def NW : Bool := false
end Jvm.Pilot.@@N@@
/- laws to paste: Road.backV, Road.codOf, Road.lenW, pair_says, shr0 (cut by pick.py; bodies as the Statement names them) -/
namespace Jvm.Pilot.@@N@@
namespace StrChars
open Jvm Sem ClassFile Op Lib Jvm.Stand Jvm.Free.XT Jvm.Free.ALB Jvm.Free.JM Jvm.Free
open Jvm.Lib.Cold (StaticIs)
/-- a char array whose places are chars -/
def Ch (a : Addr) (A : Cell) (U : State) : Prop := Arr .char a A U ∧ Typed .char A
theorem Ch.mv {a : Addr} {A : Cell} {U U' : State} (h : Ch a A U) (hal : U.vm.Alike U'.vm) (hh : U'.heap = U.heap) : Ch a A U' := ⟨h.1.mv hal hh, h.2⟩
theorem Ch.keep {a : Addr} {A : Cell} {U U' : State} (h : Ch a A U) (hal : U.vm.Alike U'.vm) (hk : U'.heap[a]? = some A) : Ch a A U' := ⟨h.1.keep hal hk, h.2⟩
/-- what place i of a char[]'s cell holds -/
def cv (A : Cell) (i : Nat) : Int32 := match A.slots[i]? with | some (.int x) => x | _ => 0
theorem Ch.get {a : Addr} {A : Cell} {U : State} (h : Ch a A U) {i : Nat} (hi : i < A.slots.size) : A.slots[i]? = some (.int (cv A i)) := by
  have e := Array.getElem?_eq_getElem hi
  have f := h.2 i _ e
  unfold cv; rw [e]
  generalize A.slots[i] = v at f
  cases v <;> simp [fits] at f ⊢
/-- the byte that i2b leaves of a char -/
def lo8 (x : Int32) : Int32 := x.toInt8.toInt32
theorem fits_lo8 (y : Int32) : fits .byte (.int (lo8 y)) = true := by
  have h1 := y.toInt8.le_toInt
  have h2 := y.toInt8.toInt_lt
  simp only [lo8, fits, Bool.and_eq_true, decide_eq_true_eq, Int32.le_iff_toInt_le, Int8.toInt_toInt32, show (-128 : Int32).toInt = -128 from by decide, show (127 : Int32).toInt = 127 from by decide]
  omega
/-- A' is A but that each place j of lo .. hi - 1 holds f j -/
def Laid (A A' : Cell) (lo hi : Nat) (f : Nat → Value) : Prop := A'.cls = A.cls ∧ A'.vm = A.vm ∧ A'.slots.size = A.slots.size ∧ ∀ i, A'.slots[i]? = if lo ≤ i ∧ i < hi then some (f i) else A.slots[i]?
theorem Laid.zero (A : Cell) (lo : Nat) (f : Nat → Value) : Laid A A lo (lo + 0) f := ⟨rfl, rfl, rfl, fun i => by rw [if_neg (by omega)]⟩
theorem Laid.step {A Ak : Cell} {lo k : Nat} {f : Nat → Value} {v : Value} (h : Laid A Ak lo k f) (hlo : lo ≤ k) (hk : k < Ak.slots.size) (hv : v = f k) : Laid A (Ak.setSlot k v) lo (k + 1) f := by
  refine ⟨h.1, h.2.1, by simpa [Cell.setSlot] using h.2.2.1, fun i => ?_⟩
  by_cases e : k = i
  · subst e; rw [Cell.slots_setSlot_self v hk, if_pos (by omega), hv]
  · rw [Cell.slots_setSlot_ne v e, h.2.2.2 i]
    by_cases q : lo ≤ i ∧ i < k
    · rw [if_pos q, if_pos (by omega)]
    · rw [if_neg q, if_neg (by omega)]
def U16 : String := "java/lang/StringUTF16"
namespace Cmp5
def yN : MethodName := ⟨"java/lang/StringUTF16", "compress", "([CI[BII)I"⟩
abbrev yB : ByteArray := jdk_52_method_21_code
theorem d0 : decode yB 0 = .ok (.iconst 0, 1) := by decide +kernel
theorem d1 : decode yB 1 = .ok (.istore 5, 2) := by decide +kernel
theorem d3 : decode yB 3 = .ok (.iload 5, 2) := by decide +kernel
theorem d5 : decode yB 5 = .ok (.iload 4, 2) := by decide +kernel
theorem d7 : decode yB 7 = .ok (.if_icmp (.ge) 37, 3) := by decide +kernel
theorem d10 : decode yB 10 = .ok (.aload_n 0, 1) := by decide +kernel
theorem d11 : decode yB 11 = .ok (.iload_n 1, 1) := by decide +kernel
theorem d12 : decode yB 12 = .ok (.caload, 1) := by decide +kernel
theorem d13 : decode yB 13 = .ok (.istore 6, 2) := by decide +kernel
theorem d15 : decode yB 15 = .ok (.iload 6, 2) := by decide +kernel
theorem d17 : decode yB 17 = .ok (.sipush 255, 3) := by decide +kernel
theorem d20 : decode yB 20 = .ok (.if_icmp (.le) 6, 3) := by decide +kernel
theorem d26 : decode yB 26 = .ok (.aload_n 2, 1) := by decide +kernel
theorem d27 : decode yB 27 = .ok (.iload_n 3, 1) := by decide +kernel
theorem d28 : decode yB 28 = .ok (.iload 6, 2) := by decide +kernel
theorem d30 : decode yB 30 = .ok (.i2b, 1) := by decide +kernel
theorem d31 : decode yB 31 = .ok (.bastore, 1) := by decide +kernel
theorem d32 : decode yB 32 = .ok (.iinc 1 1, 3) := by decide +kernel
theorem d35 : decode yB 35 = .ok (.iinc 3 1, 3) := by decide +kernel
theorem d38 : decode yB 38 = .ok (.iinc 5 1, 3) := by decide +kernel
theorem d41 : decode yB 41 = .ok (.goto (-38), 3) := by decide +kernel
theorem d44 : decode yB 44 = .ok (.iload 4, 2) := by decide +kernel
theorem d46 : decode yB 46 = .ok (.ireturn, 1) := by decide +kernel
def site : List Cond := []
def tab : Cond := tabOf yN yB 7 (some .int) site
def P (b : Addr) (A : Cell) (d : Addr) (B : Cell) (o q len : Nat) (args : Array Value) (s : State) : Prop := args = #[.ref b, .int (Int32.ofNat o), .ref d, .int (Int32.ofNat q), .int (Int32.ofNat len)] ∧ Ch b A s ∧ Arr .byte d B s ∧ b ≠ d ∧ o + len ≤ A.slots.size ∧ q + len ≤ B.slots.size ∧ ∀ i, i < len → ¬ 255 < cv A (o + i)
def E (b : Addr) (A : Cell) (d : Addr) (B : Cell) (o q len : Nat) (r : Option Value) (s u : State) : Prop := r = some (.int (Int32.ofNat len)) ∧ ∃ B', Put d B' s u ∧ Laid B B' q (q + len) (fun j => Value.int (lo8 (cv A (o + (j - q)))))
/-- no char of the range above 255: len; the places written hold each char's low byte -/
theorem law (l : Launch) (b : Addr) (A : Cell) (d : Addr) (B : Cell) (o q len : Nat) : Law l yN 5 5 0 0 yB 7 (some .int) site (P b A d B o q len) (E b A d B o q len) (copyLocs d q len) 0 0 := by
  refine Law.of_walk (plainFor_of_name (by decide +kernel)) (by decide +kernel) (by decide +kernel) (by decide) (fun _ _ h => by rw [h.1]; rfl) (fun _ U U' hal hh h => ⟨h.1, h.2.1.mv hal hh, h.2.2.1.mv hal hh, h.2.2.2⟩) (fun r U U' V V' h1 hal h2 h => ⟨h.1, h.2.elim fun B' q => ⟨B', q.1.mv h1 h2, q.2⟩⟩) ?_
  intro p e s m args below meth c s₁ X0 hexec hbytes hml hret hlk hnm hown hh0 W hP
  obtain ⟨rfl, hA, hB, hne, l1, l2, hp⟩ := hP
  have c1 : Steps p.tables e below (s₁.setTop (entryFrame m #[.ref b, .int (Int32.ofNat o), .ref d, .int (Int32.ofNat q), .int (Int32.ofNat len)] 7)) (s₁.setTop (mkF m 0 #[.val (.ref b), .val (.int (Int32.ofNat o)), .val (.ref d), .val (.int (Int32.ofNat q)), .val (.int (Int32.ofNat len)), .unset, .unset] [])) := entry rfl
  have hA0 := hA.1.mv X0.warmed.alike hh0
  have hB0 := hB.mv X0.warmed.alike hh0
  have a31 := hA.1.2.2.2
  have c2 : Steps p.tables e below (s₁.setTop (entryFrame m #[.ref b, .int (Int32.ofNat o), .ref d, .int (Int32.ofNat q), .int (Int32.ofNat len)] 7)) (s₁.setTop (mkF m 3 #[.val (.ref b), .val (.int (Int32.ofNat o)), .val (.ref d), .val (.int (Int32.ofNat q)), .val (.int (Int32.ofNat len)), .val (.int 0), .unset] [])) := c1.trans (by
    refine iconstV X0.here hexec rfl 0 (hb hbytes d0) (by decide) ?_
    refine XS.istore X0.here hexec rfl (hb hbytes d1) rfl rfl ?_
    exact Steps.refl _)
  have loop : ∀ (r i : Nat), i + r = len → ∀ (z : Slot), (z = .unset ∨ ∃ w, z = .val w ∧ w.category = 1) → ∀ (Tl : State) (Bk : Cell), Stand p l e { frames := 0, locals := 0, cells := 0, slots := 0 } s m #[.ref b, .int (Int32.ofNat o), .ref d, .int (Int32.ofNat q), .int (Int32.ofNat len)] below meth c Tl ([] ++ copyLocs d q i) 0 0 → Put d Bk s₁ Tl → Laid B Bk q (q + i) (fun j => Value.int (lo8 (cv A (o + (j - q))))) →
      Steps p.tables e below (s₁.setTop (entryFrame m #[.ref b, .int (Int32.ofNat o), .ref d, .int (Int32.ofNat q), .int (Int32.ofNat len)] 7)) (Tl.setTop (mkF m 3 #[.val (.ref b), .val (.int (Int32.ofNat (o + i))), .val (.ref d), .val (.int (Int32.ofNat (q + i))), .val (.int (Int32.ofNat len)), .val (.int (Int32.ofNat i)), z] [])) → ∃ (T' : State) (B' : Cell) (z' : Slot), Stand p l e { frames := 0, locals := 0, cells := 0, slots := 0 } s m #[.ref b, .int (Int32.ofNat o), .ref d, .int (Int32.ofNat q), .int (Int32.ofNat len)] below meth c T' ([] ++ copyLocs d q len) 0 0 ∧ Put d B' s₁ T' ∧ Laid B B' q (q + len) (fun j => Value.int (lo8 (cv A (o + (j - q))))) ∧
      Steps p.tables e below (s₁.setTop (entryFrame m #[.ref b, .int (Int32.ofNat o), .ref d, .int (Int32.ofNat q), .int (Int32.ofNat len)] 7)) (T'.setTop (mkF m 3 #[.val (.ref b), .val (.int (Int32.ofNat (o + len))), .val (.ref d), .val (.int (Int32.ofNat (q + len))), .val (.int (Int32.ofNat len)), .val (.int (Int32.ofNat len)), z'] [])) := by
    intro r
    induction r with
    | zero =>
      intro i hi z hz Tl Bk Xl pl fl cl
      have hil : i = len := by omega
      rw [hil] at Xl fl cl
      exact ⟨Tl, Bk, z, Xl, pl, fl, cl⟩
    | succ r ih =>
      intro i hi z hz Tl Bk Xl pl fl cl
      have all := X0.warmed.alike.symm.trans Xl.warmed.alike
      have hAl := hA0.keep all (pl.other hne hA0.1)
      have hBk := hB0.like all pl.1 fl.1 fl.2.1 fl.2.2.1
      have hlt : q + i < Bk.slots.size := by rw [fl.2.2.1]; omega
      have c3 : Steps p.tables e below (s₁.setTop (entryFrame m #[.ref b, .int (Int32.ofNat o), .ref d, .int (Int32.ofNat q), .int (Int32.ofNat len)] 7)) (Tl.setTop (mkF m 12 #[.val (.ref b), .val (.int (Int32.ofNat (o + i))), .val (.ref d), .val (.int (Int32.ofNat (q + i))), .val (.int (Int32.ofNat len)), .val (.int (Int32.ofNat i)), z] [.int (Int32.ofNat (o + i)), .ref b])) := cl.trans (by
        refine XS.iload Xl.here hexec rfl (hb hbytes d3) rfl ?_
        refine XS.iload Xl.here hexec rfl (hb hbytes d5) rfl ?_
        refine XS.icmpNo Xl.here hexec rfl (hb hbytes d7) rfl (ii_ge_f (lt32 (by omega) (by omega))) ?_
        refine XS.aloadN Xl.here hexec rfl (hb hbytes d10) rfl rfl ?_
        refine XS.iloadN Xl.here hexec rfl (hb hbytes d11) rfl ?_
        exact Steps.refl _)
      have c4 : Steps p.tables e below (s₁.setTop (entryFrame m #[.ref b, .int (Int32.ofNat o), .ref d, .int (Int32.ofNat q), .int (Int32.ofNat len)] 7)) (Tl.setTop (mkF m 13 #[.val (.ref b), .val (.int (Int32.ofNat (o + i))), .val (.ref d), .val (.int (Int32.ofNat (q + i))), .val (.int (Int32.ofNat len)), .val (.int (Int32.ofNat i)), z] [.int (cv A (o + i))])) := c3.trans (by
        refine Xl.aget hexec hAl rfl (hA.get (i := o + i) (by omega)) rfl rfl (hb hbytes d12) ?_
        exact Steps.refl _)
      have c5 : Steps p.tables e below (s₁.setTop (entryFrame m #[.ref b, .int (Int32.ofNat o), .ref d, .int (Int32.ofNat q), .int (Int32.ofNat len)] 7)) (Tl.setTop (mkF m 15 #[.val (.ref b), .val (.int (Int32.ofNat (o + i))), .val (.ref d), .val (.int (Int32.ofNat (q + i))), .val (.int (Int32.ofNat len)), .val (.int (Int32.ofNat i)), .val (.int (cv A (o + i)))] [])) := c4.trans (by
        refine XS.istoreS Xl.here hexec rfl (hb hbytes d13) rfl rfl hz ?_
        exact Steps.refl _)
      have c6 : Steps p.tables e below (s₁.setTop (entryFrame m #[.ref b, .int (Int32.ofNat o), .ref d, .int (Int32.ofNat q), .int (Int32.ofNat len)] 7)) (Tl.setTop (mkF m 31 #[.val (.ref b), .val (.int (Int32.ofNat (o + i))), .val (.ref d), .val (.int (Int32.ofNat (q + i))), .val (.int (Int32.ofNat len)), .val (.int (Int32.ofNat i)), .val (.int (cv A (o + i)))] [.int (lo8 (cv A (o + i))), .int (Int32.ofNat (q + i)), .ref d])) := c5.trans (by
        refine XS.iload Xl.here hexec rfl (hb hbytes d15) rfl ?_
        refine sipushV Xl.here hexec rfl 255 (hb hbytes d17) (by decide) ?_
        refine XS.icmpYes Xl.here hexec rfl (pc0 := 20) rfl (hb hbytes d20) rfl (ii_le_t (hp i (by omega))) (by decide) rfl ?_
        refine XS.aloadN Xl.here hexec rfl (hb hbytes d26) rfl rfl ?_
        refine XS.iloadN Xl.here hexec rfl (hb hbytes d27) rfl ?_
        refine XS.iload Xl.here hexec rfl (hb hbytes d28) rfl ?_
        refine i2b Xl.here hexec rfl (hb hbytes d30) rfl ?_
        exact Steps.refl _)
      obtain ⟨T7, X7, p7, st7⟩ := Xl.aput hexec hBk rfl hlt rfl (fits_lo8 (cv A (o + i))) (g := (mkF m 31 #[.val (.ref b), .val (.int (Int32.ofNat (o + i))), .val (.ref d), .val (.int (Int32.ofNat (q + i))), .val (.int (Int32.ofNat len)), .val (.int (Int32.ofNat i)), .val (.int (cv A (o + i)))] [.int (lo8 (cv A (o + i))), .int (Int32.ofNat (q + i)), .ref d])) rfl (rest := []) rfl (hb hbytes d31)
      have c8 : Steps p.tables e below (s₁.setTop (entryFrame m #[.ref b, .int (Int32.ofNat o), .ref d, .int (Int32.ofNat q), .int (Int32.ofNat len)] 7)) (T7.setTop (mkF m 32 #[.val (.ref b), .val (.int (Int32.ofNat (o + i))), .val (.ref d), .val (.int (Int32.ofNat (q + i))), .val (.int (Int32.ofNat len)), .val (.int (Int32.ofNat i)), .val (.int (cv A (o + i)))] [])) := c6.trans (st7 _ (Steps.refl _))
      have c9 : Steps p.tables e below (s₁.setTop (entryFrame m #[.ref b, .int (Int32.ofNat o), .ref d, .int (Int32.ofNat q), .int (Int32.ofNat len)] 7)) (T7.setTop (mkF m 3 #[.val (.ref b), .val (.int (Int32.ofNat (o + i) + 1)), .val (.ref d), .val (.int (Int32.ofNat (q + i) + 1)), .val (.int (Int32.ofNat len)), .val (.int (Int32.ofNat i + 1)), .val (.int (cv A (o + i)))] [])) := c8.trans (by
        refine iincV X7.here hexec rfl 1 (hb hbytes d32) (by decide) rfl rfl ?_
        refine iincV X7.here hexec rfl 1 (hb hbytes d35) (by decide) rfl rfl ?_
        refine iincV X7.here hexec rfl 1 (hb hbytes d38) (by decide) rfl rfl ?_
        refine XS.goto X7.here hexec rfl (pc0 := 41) rfl (hb hbytes d41) (by decide) rfl ?_
        exact Steps.refl _)
      have c10 : Steps p.tables e below (s₁.setTop (entryFrame m #[.ref b, .int (Int32.ofNat o), .ref d, .int (Int32.ofNat q), .int (Int32.ofNat len)] 7)) (T7.setTop (mkF m 3 #[.val (.ref b), .val (.int (Int32.ofNat (o + (i + 1)))), .val (.ref d), .val (.int (Int32.ofNat (q + (i + 1)))), .val (.int (Int32.ofNat len)), .val (.int (Int32.ofNat (i + 1))), .val (.int (cv A (o + i)))] [])) := by
        have := c9
        rw [succ32, succ32, succ32] at this
        exact this
      exact ih (i + 1) (by omega) _ (Or.inr ⟨_, rfl, rfl⟩) T7 _ (by rw [copyLocs_step, ← List.append_assoc]; exact X7) (pl.trans p7) (fl.step (by omega) hlt (by simp)) c10
  obtain ⟨T9, B9, z9, X9, p9, f9, g9⟩ := loop len 0 (by omega) .unset (Or.inl rfl) s₁ B (by simpa [copyLocs] using X0) ⟨hB0.1, fun _ _ => rfl, rfl⟩ (Laid.zero _ _ _) c2
  have c11 : Steps p.tables e below (s₁.setTop (entryFrame m #[.ref b, .int (Int32.ofNat o), .ref d, .int (Int32.ofNat q), .int (Int32.ofNat len)] 7)) (T9.setTop (mkF m 46 #[.val (.ref b), .val (.int (Int32.ofNat (o + len))), .val (.ref d), .val (.int (Int32.ofNat (q + len))), .val (.int (Int32.ofNat len)), .val (.int (Int32.ofNat len)), z9] [.int (Int32.ofNat len)])) := g9.trans (by
    refine XS.iload X9.here hexec rfl (hb hbytes d3) rfl ?_
    refine XS.iload X9.here hexec rfl (hb hbytes d5) rfl ?_
    refine XS.icmpYes X9.here hexec rfl (pc0 := 7) rfl (hb hbytes d7) rfl (ii_ge_t (nlt32 (by omega) (Nat.le_refl _))) (by decide) rfl ?_
    refine XS.iload X9.here hexec rfl (hb hbytes d44) rfl ?_
    exact Steps.refl _)
  exact ⟨T9, some (.int (Int32.ofNat len)), _, _, _, X9, by simp, rfl, rfl, (fun h => by cases h), ⟨rfl, B9, p9.from hh0, f9⟩, fun fs hl => c11.trans (X9.ireturnOut hexec hret rfl (Or.inl rfl) (hb hbytes d46) hl)⟩
end Cmp5
namespace Cmp3
def yN : MethodName := ⟨"java/lang/StringUTF16", "compress", "([CII)[B"⟩
abbrev yB : ByteArray := jdk_52_method_16_code
theorem d0 : decode yB 0 = .ok (.iload_n 2, 1) := by decide +kernel
theorem d1 : decode yB 1 = .ok (.newarray .byte, 2) := by decide +kernel
theorem d3 : decode yB 3 = .ok (.astore_n 3, 1) := by decide +kernel
theorem d4 : decode yB 4 = .ok (.aload_n 0, 1) := by decide +kernel
theorem d5 : decode yB 5 = .ok (.iload_n 1, 1) := by decide +kernel
theorem d6 : decode yB 6 = .ok (.aload_n 3, 1) := by decide +kernel
theorem d7 : decode yB 7 = .ok (.iconst 0, 1) := by decide +kernel
theorem d8 : decode yB 8 = .ok (.iload_n 2, 1) := by decide +kernel
theorem d9 : decode yB 9 = .ok (.invokestatic 115, 3) := by decide +kernel
theorem d12 : decode yB 12 = .ok (.istore 4, 2) := by decide +kernel
theorem d14 : decode yB 14 = .ok (.iload 4, 2) := by decide +kernel
theorem d16 : decode yB 16 = .ok (.iload_n 2, 1) := by decide +kernel
theorem d17 : decode yB 17 = .ok (.if_icmp (.eq) 40, 3) := by decide +kernel
theorem d57 : decode yB 57 = .ok (.aload_n 3, 1) := by decide +kernel
theorem d58 : decode yB 58 = .ok (.areturn, 1) := by decide +kernel
def site : List Cond := [.arrayClass .byte, Cmp5.tab] ++ staticW U16 115 Cmp5.yN
def tab : Cond := tabOf yN yB 6 (some (.array .byte)) site
def P (b : Addr) (A : Cell) (o len : Nat) (args : Array Value) (s : State) : Prop := args = #[.ref b, .int (Int32.ofNat o), .int (Int32.ofNat len)] ∧ Ch b A s ∧ o + len ≤ A.slots.size ∧ len ≤ 536870912 ∧ ∀ i, i < len → ¬ 255 < cv A (o + i)
def E (b : Addr) (A : Cell) (o len : Nat) (r : Option Value) (s u : State) : Prop := NewArr .byte "[B" len (fun j => .int (lo8 (cv A (o + j)))) r s u ∧ u.heap.size = s.heap.size + 1
/-- no char of the range above 255: a new byte[] of their low bytes -/
theorem law (l : Launch) (b : Addr) (A : Cell) (o len : Nat) : Law l yN 3 3 1 18 yB 6 (some (.array .byte)) site (P b A o len) (E b A o len) [] 1 len := by
  refine Law.of_walk (plainFor_of_name (by decide +kernel)) (by decide +kernel) (by decide +kernel) (by decide) (fun _ _ h => by rw [h.1]; rfl) (fun _ U U' hal hh h => ⟨h.1, h.2.1.mv hal hh, h.2.2⟩) (fun r U U' V V' h1 hal h2 h => ⟨NewArr.mv r U U' V V' h1 hal h2 h.1, by rw [h1, h2]; exact h.2⟩) ?_
  intro p e s m args below meth c s₁ X0 hexec hbytes hml hret hlk hnm hown hh0 W hP
  obtain ⟨rfl, hA, l1, l2, hp⟩ := hP
  have a31 := hA.1.2.2.2
  have c1 : Steps p.tables e below (s₁.setTop (entryFrame m #[.ref b, .int (Int32.ofNat o), .int (Int32.ofNat len)] 6)) (s₁.setTop (mkF m 0 #[.val (.ref b), .val (.int (Int32.ofNat o)), .val (.int (Int32.ofNat len)), .unset, .unset, .unset] [])) := entry rfl
  have c2 : Steps p.tables e below (s₁.setTop (entryFrame m #[.ref b, .int (Int32.ofNat o), .int (Int32.ofNat len)] 6)) (s₁.setTop (mkF m 1 #[.val (.ref b), .val (.int (Int32.ofNat o)), .val (.int (Int32.ofNat len)), .unset, .unset, .unset] [.int (Int32.ofNat len)])) := c1.trans (by
    refine XS.iloadN X0.here hexec rfl (hb hbytes d0) rfl ?_
    exact Steps.refl _)
  obtain ⟨T3, B3, X3, ba3, bs3, bv3, bh3, bf3, st3⟩ := X0.anew hexec (atype := .byte) (wk W (.arrayClass .byte)) rfl (by show len * 1 ≤ _; omega) (by omega) (g := (mkF m 1 #[.val (.ref b), .val (.int (Int32.ofNat o)), .val (.int (Int32.ofNat len)), .unset, .unset, .unset] [.int (Int32.ofNat len)])) rfl (hb hbytes d1) (rest := []) rfl (Nat.le_refl _) (by show 0 + len ≤ len; omega)
  rw [hh0] at ba3 st3
  have kp3 : XT.Kept s T3 := (XT.Kept.of_eq hh0).push bh3
  have hA3 := hA.keep X3.warmed.alike (kp3 _ _ hA.1.1)
  have hne : b ≠ s.heap.size := hA.1.ne
  have c4 : Steps p.tables e below (s₁.setTop (entryFrame m #[.ref b, .int (Int32.ofNat o), .int (Int32.ofNat len)] 6)) (T3.setTop (mkF m 3 #[.val (.ref b), .val (.int (Int32.ofNat o)), .val (.int (Int32.ofNat len)), .unset, .unset, .unset] [.ref s.heap.size])) := c2.trans (st3 _ (Steps.refl _))
  have c5 : Steps p.tables e below (s₁.setTop (entryFrame m #[.ref b, .int (Int32.ofNat o), .int (Int32.ofNat len)] 6)) (T3.setTop (mkF m 9 #[.val (.ref b), .val (.int (Int32.ofNat o)), .val (.int (Int32.ofNat len)), .val (.ref s.heap.size), .unset, .unset] [.int (Int32.ofNat len), .int 0, .ref s.heap.size, .int (Int32.ofNat o), .ref b])) := c4.trans (by
    refine XS.astoreN X3.here hexec rfl (hb hbytes d3) rfl rfl rfl ?_
    refine XS.aloadN X3.here hexec rfl (hb hbytes d4) rfl rfl ?_
    refine XS.iloadN X3.here hexec rfl (hb hbytes d5) rfl ?_
    refine XS.aloadN X3.here hexec rfl (hb hbytes d6) rfl rfl ?_
    refine iconstV X3.here hexec rfl 0 (hb hbytes d7) (by decide) ?_
    refine XS.iloadN X3.here hexec rfl (hb hbytes d8) rfl ?_
    exact Steps.refl _)
  obtain ⟨v6, T6, X6, E6, g6⟩ := X3.callS hexec (Cmp5.law l b A s.heap.size B3 o 0 len) hown (wks W (staticW U16 115 Cmp5.yN)) (wk W Cmp5.tab) (W := 0) (Nat.le_of_ble_eq_true rfl) (Nat.le_of_ble_eq_true rfl) (Nat.le_refl _) (by show 0 + len + 0 ≤ len; omega) (g := (mkF m 9 #[.val (.ref b), .val (.int (Int32.ofNat o)), .val (.int (Int32.ofNat len)), .val (.ref s.heap.size), .unset, .unset] [.int (Int32.ofNat len), .int (Int32.ofNat 0), .ref s.heap.size, .int (Int32.ofNat o), .ref b])) rfl (by rw [hml]; rfl) c5 (argsL := [.ref b, .int (Int32.ofNat o), .ref s.heap.size, .int (Int32.ofNat 0), .int (Int32.ofNat len)]) (rest := []) rfl rfl (by show 2 * 0 + 0 ≤ _; decide) (hb hbytes d9) (⟨rfl, hA3, ba3, hne, l1, by rw [bs3]; simp, hp⟩)
  obtain ⟨rfl, B6, p6, f6⟩ := E6
  have c7 : Steps p.tables e below (s₁.setTop (entryFrame m #[.ref b, .int (Int32.ofNat o), .int (Int32.ofNat len)] 6)) (T6.setTop (mkF m 12 #[.val (.ref b), .val (.int (Int32.ofNat o)), .val (.int (Int32.ofNat len)), .val (.ref s.heap.size), .unset, .unset] [.int (Int32.ofNat len)])) := g6
  have c8 : Steps p.tables e below (s₁.setTop (entryFrame m #[.ref b, .int (Int32.ofNat o), .int (Int32.ofNat len)] 6)) (T6.setTop (mkF m 58 #[.val (.ref b), .val (.int (Int32.ofNat o)), .val (.int (Int32.ofNat len)), .val (.ref s.heap.size), .val (.int (Int32.ofNat len)), .unset] [.ref s.heap.size])) := c7.trans (by
    refine XS.istore X6.here hexec rfl (hb hbytes d12) rfl rfl ?_
    refine XS.iload X6.here hexec rfl (hb hbytes d14) rfl ?_
    refine XS.iloadN X6.here hexec rfl (hb hbytes d16) rfl ?_
    refine XS.icmpYes X6.here hexec rfl (pc0 := 17) rfl (hb hbytes d17) rfl (ii_eq_t rfl) (by decide) rfl ?_
    refine XS.aloadN X6.here hexec rfl (hb hbytes d57) rfl rfl ?_
    exact Steps.refl _)
  have X8 := X6.wide (L' := []) (cells' := 1) (slots' := len) (fun x hx hlt => by
    simp only [List.nil_append, copyLocs, List.mem_map, List.mem_range] at hx
    obtain ⟨i, -, rfl⟩ := hx
    exact absurd hlt (Nat.lt_irrefl _)) (Nat.le_refl _) (by omega)
  exact ⟨T6, some (.ref s.heap.size), _, _, _, X8, rfl, rfl, rfl, (fun h => by cases h), ⟨⟨rfl, B6, ba3.like (X3.warmed.alike.symm.trans X6.warmed.alike) p6.1 f6.1 f6.2.1 f6.2.2.1, f6.2.1.trans bv3, by rw [X6.warmed.alike.findClass, f6.1]; exact bf3, by rw [f6.2.2.1, bs3]; simp, fun j hj => by rw [f6.2.2.2 j, if_pos (by omega)]; rfl, kp3.put p6 (Nat.le_refl _)⟩, by rw [p6.2.2, bh3, hh0]; simp⟩, fun fs hl => c8.trans (X8.areturnOut hexec rfl hret rfl (hb hbytes d58) hl)⟩
end Cmp3
namespace CodL
def yN : MethodName := ⟨"java/lang/StringUTF16", "coderFromArrayLen", "([BI)B"⟩
abbrev yB : ByteArray := jdk_52_method_15_code
theorem d0 : decode yB 0 = .ok (.iload_n 1, 1) := by decide +kernel
theorem d1 : decode yB 1 = .ok (.aload_n 0, 1) := by decide +kernel
theorem d2 : decode yB 2 = .ok (.arraylength, 1) := by decide +kernel
theorem d3 : decode yB 3 = .ok (.isub, 1) := by decide +kernel
theorem d4 : decode yB 4 = .ok (.bipush 31, 2) := by decide +kernel
theorem d6 : decode yB 6 = .ok (.iushr, 1) := by decide +kernel
theorem d7 : decode yB 7 = .ok (.i2b, 1) := by decide +kernel
theorem d8 : decode yB 8 = .ok (.ireturn, 1) := by decide +kernel
def site : List Cond := []
def tab : Cond := tabOf yN yB 2 (some .byte) site
def P (d : Addr) (B : Cell) (args : Array Value) (s : State) : Prop := args = #[.ref d, .int (Int32.ofNat B.slots.size)] ∧ Arr .byte d B s
def E (r : Option Value) (s u : State) : Prop := XT.PureE (some (.int 0)) r s u
/-- an array as long as the number of chars: LATIN1 -/
theorem law (l : Launch) (d : Addr) (B : Cell) : Law l yN 2 2 0 0 yB 2 (some .byte) site (P d B) E [] 0 0 := by
  refine Law.of_walk (plainFor_of_name (by decide +kernel)) (by decide +kernel) (by decide +kernel) (by decide) (fun _ _ h => by rw [h.1]; rfl) (fun _ U U' hal hh h => ⟨h.1, h.2.mv hal hh⟩) (fun r U U' V V' h1 hal h2 h => XT.PureE.mv r U U' V V' h1 hal h2 h) ?_
  intro p e s m args below meth c s₁ X0 hexec hbytes hml hret hlk hnm hown hh0 W hP
  obtain ⟨rfl, hB⟩ := hP
  have hB0 := hB.mv X0.warmed.alike hh0
  have c1 : Steps p.tables e below (s₁.setTop (entryFrame m #[.ref d, .int (Int32.ofNat B.slots.size)] 2)) (s₁.setTop (mkF m 0 #[.val (.ref d), .val (.int (Int32.ofNat B.slots.size))] [])) := entry rfl
  have c2 : Steps p.tables e below (s₁.setTop (entryFrame m #[.ref d, .int (Int32.ofNat B.slots.size)] 2)) (s₁.setTop (mkF m 2 #[.val (.ref d), .val (.int (Int32.ofNat B.slots.size))] [.ref d, .int (Int32.ofNat B.slots.size)])) := c1.trans (by
    refine XS.iloadN X0.here hexec rfl (hb hbytes d0) rfl ?_
    refine XS.aloadN X0.here hexec rfl (hb hbytes d1) rfl rfl ?_
    exact Steps.refl _)
  have c3 : Steps p.tables e below (s₁.setTop (entryFrame m #[.ref d, .int (Int32.ofNat B.slots.size)] 2)) (s₁.setTop (mkF m 8 #[.val (.ref d), .val (.int (Int32.ofNat B.slots.size))] [.int (lo8 (ushr (Int32.ofNat B.slots.size - Int32.ofNat B.slots.size) 31))])) := c2.trans (by
    refine X0.alen hexec hB0 rfl rfl (hb hbytes d2) ?_
    refine XS.isub X0.here hexec rfl (hb hbytes d3) rfl ?_
    refine bipushV X0.here hexec rfl 31 (hb hbytes d4) (by decide) ?_
    refine iushr X0.here hexec rfl (hb hbytes d6) rfl ?_
    refine i2b X0.here hexec rfl (hb hbytes d7) rfl ?_
    exact Steps.refl _)
  have e0 : lo8 (ushr (Int32.ofNat B.slots.size - Int32.ofNat B.slots.size) 31) = 0 := by rw [Int32.sub_self]; decide
  rw [e0] at c3
  exact ⟨s₁, some (.int 0), _, _, _, X0, rfl, rfl, rfl, (fun h => by cases h), ⟨rfl, hh0⟩, fun fs hl => c3.trans (X0.ireturnOut hexec hret rfl (Or.inr (Or.inr (Or.inl rfl))) (hb hbytes d8) hl)⟩
end CodL
/-- the String at a is Latin-1 over a new byte[] (the heap's one new cell): the low bytes of the len chars of A from o on; every cell but a is kept -/
def Got (a : Addr) (D : Cell) (fV fC : Field) (A : Cell) (o len : Nat) (r : Option Value) (s u : State) : Prop := r = none ∧ ∃ D' V : Cell, Blank "java/lang/String" a D' u ∧ Same D D' [fV.slot, fC.slot] ∧ D'.slots[fV.slot]? = some (.ref s.heap.size) ∧ D'.slots[fC.slot]? = some (.int 0) ∧ Arr .byte s.heap.size V u ∧ V.vm = .none ∧ u.vm.findClass "[B" = some V.cls ∧ V.slots.size = len ∧ (∀ j, j < len → V.slots[j]? = some (.int (lo8 (cv A (o + j))))) ∧ (∀ (y : Addr) (c : Cell), y ≠ a → s.heap[y]? = some c → u.heap[y]? = some c) ∧ u.heap.size = s.heap.size + 1
theorem Got.mv {a : Addr} {D A : Cell} {fV fC : Field} {o len : Nat} : ∀ r (U U' V V' : State), U'.heap = U.heap → V.vm.Alike V'.vm → V'.heap = V.heap → Got a D fV fC A o len r U V → Got a D fV fC A o len r U' V' :=
  fun r U U' V V' h1 hal h2 ⟨e0, D', X, a1, a2, a3, a4, a5, a6, a7, a8, a9, a10, a11⟩ => ⟨e0, D', X, a1.mv hal h2, a2, by rw [h1]; exact a3, a4, by rw [h1]; exact a5.mv hal h2, a6, by rw [hal.findClass]; exact a7, a8, a9, by rw [h1, h2]; exact a10, by rw [h1, h2]; exact a11⟩
namespace New4
def yN : MethodName := ⟨"java/lang/String", "<init>", "([CIILjava/lang/Void;)V"⟩
abbrev yB : ByteArray := jdk_42_method_149_code
theorem d0 : decode yB 0 = .ok (.aload_n 0, 1) := by decide +kernel
theorem d1 : decode yB 1 = .ok (.invokespecial 1, 3) := by decide +kernel
theorem d4 : decode yB 4 = .ok (.iload_n 3, 1) := by decide +kernel
theorem d5 : decode yB 5 = .ok (.ifCond (.ne) 22, 3) := by decide +kernel
theorem d27 : decode yB 27 = .ok (.getstatic 38, 3) := by decide +kernel
theorem d30 : decode yB 30 = .ok (.ifCond (.eq) 28, 3) := by decide +kernel
theorem d33 : decode yB 33 = .ok (.aload_n 1, 1) := by decide +kernel
theorem d34 : decode yB 34 = .ok (.iload_n 2, 1) := by decide +kernel
theorem d35 : decode yB 35 = .ok (.iload_n 3, 1) := by decide +kernel
theorem d36 : decode yB 36 = .ok (.invokestatic 177, 3) := by decide +kernel
theorem d39 : decode yB 39 = .ok (.astore 5, 2) := by decide +kernel
theorem d41 : decode yB 41 = .ok (.aload_n 0, 1) := by decide +kernel
theorem d42 : decode yB 42 = .ok (.aload 5, 2) := by decide +kernel
theorem d44 : decode yB 44 = .ok (.iload_n 3, 1) := by decide +kernel
theorem d45 : decode yB 45 = .ok (.invokestatic 47, 3) := by decide +kernel
theorem d48 : decode yB 48 = .ok (.putfield 15, 3) := by decide +kernel
theorem d51 : decode yB 51 = .ok (.aload_n 0, 1) := by decide +kernel
theorem d52 : decode yB 52 = .ok (.aload 5, 2) := by decide +kernel
theorem d54 : decode yB 54 = .ok (.putfield 9, 3) := by decide +kernel
theorem d57 : decode yB 57 = .ok (.return_, 1) := by decide +kernel
def site : List Cond := [.fieldLink "java/lang/String" 38 "java/lang/String" "COMPACT_STRINGS" "Z", Cmp3.tab, CodL.tab, .laysFinal "java/lang/String" "java/lang/String" "value" "[B", .fieldLink "java/lang/String" 9 "java/lang/String" "value" "[B", .laysFinal "java/lang/String" "java/lang/String" "coder" "B", .fieldLink "java/lang/String" 15 "java/lang/String" "coder" "B"] ++ objW "java/lang/String" 1 ++ staticW "java/lang/String" 177 Cmp3.yN ++ staticW "java/lang/String" 47 CodL.yN
def tab : Cond := tabOf yN yB 6 none site
def P (a : Addr) (D : Cell) (fV fC : Field) (b : Addr) (A : Cell) (z : Int32) (o len : Nat) (args : Array Value) (s : State) : Prop := args = #[.ref a, .ref b, .int (Int32.ofNat o), .int (Int32.ofNat len), .null] ∧ Blank "java/lang/String" a D s ∧ Found "java/lang/String" "value" "[B" fV s ∧ Found "java/lang/String" "coder" "B" fC s ∧ Ch b A s ∧ StaticIs s "java/lang/String" "COMPACT_STRINGS" "Z" (.int z) ∧ ¬ z = 0 ∧ 0 < len ∧ o + len ≤ A.slots.size ∧ len ≤ 536870912 ∧ ∀ i, i < len → ¬ 255 < cv A (o + i)
def E (a : Addr) (D : Cell) (fV fC : Field) (A : Cell) (o len : Nat) (r : Option Value) (s u : State) : Prop := Got a D fV fC A o len r s u
/-- len > 0, no char of the range above 255: a Latin-1 String of their low bytes -/
theorem law (l : Launch) (a : Addr) (D : Cell) (fV fC : Field) (b : Addr) (A : Cell) (z : Int32) (o len : Nat) : Law l yN 5 4 2 35 yB 6 none site (P a D fV fC b A z o len) (E a D fV fC A o len) [⟨a, fC.slot⟩, ⟨a, fV.slot⟩] 1 len := by
  refine Law.of_walk (plainFor_of_name (by decide +kernel)) (by decide +kernel) (by decide +kernel) (by decide) (fun _ _ h => by rw [h.1]; rfl) (fun _ U U' hal hh h => ⟨h.1, h.2.1.mv hal hh, h.2.2.1.al hal, h.2.2.2.1.al hal, h.2.2.2.2.1.mv hal hh, h.2.2.2.2.2.1.there hal hh, h.2.2.2.2.2.2⟩) (fun r U U' V V' h1 hal h2 h => Got.mv r U U' V V' h1 hal h2 h) ?_
  intro p e s m args below meth c s₁ X0 hexec hbytes hml hret hlk hnm hown hh0 W hP
  obtain ⟨rfl, hB, f1, f2, hA, s1, hz, l0, l1, l2, hp⟩ := hP
  have a31 := hA.1.2.2.2
  have c1 : Steps p.tables e below (s₁.setTop (entryFrame m #[.ref a, .ref b, .int (Int32.ofNat o), .int (Int32.ofNat len), .null] 6)) (s₁.setTop (mkF m 0 #[.val (.ref a), .val (.ref b), .val (.int (Int32.ofNat o)), .val (.int (Int32.ofNat len)), .val .null, .unset] [])) := entry rfl
  have c2 : Steps p.tables e below (s₁.setTop (entryFrame m #[.ref a, .ref b, .int (Int32.ofNat o), .int (Int32.ofNat len), .null] 6)) (s₁.setTop (mkF m 1 #[.val (.ref a), .val (.ref b), .val (.int (Int32.ofNat o)), .val (.int (Int32.ofNat len)), .val .null, .unset] [.ref a])) := c1.trans (by
    refine XS.aloadN X0.here hexec rfl (hb hbytes d0) rfl rfl ?_
    exact Steps.refl _)
  obtain ⟨T3, X3, q3, st3⟩ := X0.oinit hexec hown (wks W (objW "java/lang/String" 1)) (g := (mkF m 1 #[.val (.ref a), .val (.ref b), .val (.int (Int32.ofNat o)), .val (.int (Int32.ofNat len)), .val .null, .unset] [.ref a])) rfl (by rw [hml]; rfl) (rest := []) rfl (hb hbytes d1) (W := 0) (by show 2 * 0 + 0 ≤ _; decide) (Nat.le_of_ble_eq_true rfl) (Nat.le_of_ble_eq_true rfl)
  have hh3 := q3.trans hh0
  have c4 : Steps p.tables e below (s₁.setTop (entryFrame m #[.ref a, .ref b, .int (Int32.ofNat o), .int (Int32.ofNat len), .null] 6)) (T3.setTop (mkF m 27 #[.val (.ref a), .val (.ref b), .val (.int (Int32.ofNat o)), .val (.int (Int32.ofNat len)), .val .null, .unset] [])) := (c2.trans (st3 _ (Steps.refl _))).trans (by
    refine XS.iloadN X3.here hexec rfl (hb hbytes d4) rfl ?_
    refine XS.ifYes X3.here hexec rfl (pc0 := 5) rfl (hb hbytes d5) rfl (i0_ne_t (nz32 (by omega) l0)) (by decide) rfl ?_
    exact Steps.refl _)
  obtain ⟨T5, X5, q5, st5⟩ := X3.sget hexec hown (wk W (.fieldLink "java/lang/String" 38 "java/lang/String" "COMPACT_STRINGS" "Z")) s1 (fun _ _ h => by rw [hh3]; exact h) (g := (mkF m 27 #[.val (.ref a), .val (.ref b), .val (.int (Int32.ofNat o)), .val (.int (Int32.ofNat len)), .val .null, .unset] [])) rfl (hb hbytes d27)
  have hh5 := q5.trans hh3
  have c6 : Steps p.tables e below (s₁.setTop (entryFrame m #[.ref a, .ref b, .int (Int32.ofNat o), .int (Int32.ofNat len), .null] 6)) (T5.setTop (mkF m 30 #[.val (.ref a), .val (.ref b), .val (.int (Int32.ofNat o)), .val (.int (Int32.ofNat len)), .val .null, .unset] [.int z])) := c4.trans (st5 _ (Steps.refl _))
  have c7 : Steps p.tables e below (s₁.setTop (entryFrame m #[.ref a, .ref b, .int (Int32.ofNat o), .int (Int32.ofNat len), .null] 6)) (T5.setTop (mkF m 36 #[.val (.ref a), .val (.ref b), .val (.int (Int32.ofNat o)), .val (.int (Int32.ofNat len)), .val .null, .unset] [.int (Int32.ofNat len), .int (Int32.ofNat o), .ref b])) := c6.trans (by
    refine XS.ifNo X5.here hexec rfl (hb hbytes d30) rfl (i0_eq_f hz) ?_
    refine XS.aloadN X5.here hexec rfl (hb hbytes d33) rfl rfl ?_
    refine XS.iloadN X5.here hexec rfl (hb hbytes d34) rfl ?_
    refine XS.iloadN X5.here hexec rfl (hb hbytes d35) rfl ?_
    exact Steps.refl _)
  obtain ⟨v8, T8, X8, E8, g8⟩ := X5.callS hexec (Cmp3.law l b A o len) hown (wks W (staticW "java/lang/String" 177 Cmp3.yN)) (wk W Cmp3.tab) (W := 0) (Nat.le_of_ble_eq_true rfl) (Nat.le_of_ble_eq_true rfl) (Nat.le_refl _) (by show 0 + len ≤ len; omega) (g := (mkF m 36 #[.val (.ref a), .val (.ref b), .val (.int (Int32.ofNat o)), .val (.int (Int32.ofNat len)), .val .null, .unset] [.int (Int32.ofNat len), .int (Int32.ofNat o), .ref b])) rfl (by rw [hml]; rfl) c7 (argsL := [.ref b, .int (Int32.ofNat o), .int (Int32.ofNat len)]) (rest := []) rfl rfl (by show 2 * 0 + 0 ≤ _; decide) (hb hbytes d36) (⟨rfl, hA.mv X5.warmed.alike hh5, l1, l2, hp⟩)
  obtain ⟨e8, z8⟩ := E8
  obtain ⟨rfl, N, n1, n2, n3, n4, n5, n6⟩ := NewArr.mv _ T5 s _ _ hh5.symm (Vm.Alike.refl _) rfl e8
  rw [hh5] at z8
  have hB1 := hB.keep X8.warmed.alike (n6 _ _ hB.1)
  have hne : s.heap.size ≠ a := (Nat.ne_of_lt (Array.getElem?_eq_some_iff.mp hB.1).1).symm
  have c9 : Steps p.tables e below (s₁.setTop (entryFrame m #[.ref a, .ref b, .int (Int32.ofNat o), .int (Int32.ofNat len), .null] 6)) (T8.setTop (mkF m 39 #[.val (.ref a), .val (.ref b), .val (.int (Int32.ofNat o)), .val (.int (Int32.ofNat len)), .val .null, .unset] [.ref s.heap.size])) := g8
  have c10 : Steps p.tables e below (s₁.setTop (entryFrame m #[.ref a, .ref b, .int (Int32.ofNat o), .int (Int32.ofNat len), .null] 6)) (T8.setTop (mkF m 45 #[.val (.ref a), .val (.ref b), .val (.int (Int32.ofNat o)), .val (.int (Int32.ofNat len)), .val .null, .val (.ref s.heap.size)] [.int (Int32.ofNat N.slots.size), .ref s.heap.size, .ref a])) := by
    have hc : Steps p.tables e below (s₁.setTop (entryFrame m #[.ref a, .ref b, .int (Int32.ofNat o), .int (Int32.ofNat len), .null] 6)) (T8.setTop (mkF m 45 #[.val (.ref a), .val (.ref b), .val (.int (Int32.ofNat o)), .val (.int (Int32.ofNat len)), .val .null, .val (.ref s.heap.size)] [.int (Int32.ofNat len), .ref s.heap.size, .ref a])) := c9.trans (by
      refine XS.astore X8.here hexec rfl (hb hbytes d39) rfl rfl rfl ?_
      refine XS.aloadN X8.here hexec rfl (hb hbytes d41) rfl rfl ?_
      refine XS.aload X8.here hexec rfl (hb hbytes d42) rfl rfl ?_
      refine XS.iloadN X8.here hexec rfl (hb hbytes d44) rfl ?_
      exact Steps.refl _)
    rw [n4]; exact hc
  obtain ⟨v11, T11, X11, E11, g11⟩ := X8.callS hexec (CodL.law l s.heap.size N) hown (wks W (staticW "java/lang/String" 47 CodL.yN)) (wk W CodL.tab) (W := 1) (Nat.le_of_ble_eq_true rfl) (Nat.le_of_ble_eq_true rfl) (Nat.le_refl _) (by show 0 + len + 0 ≤ len; omega) (g := (mkF m 45 #[.val (.ref a), .val (.ref b), .val (.int (Int32.ofNat o)), .val (.int (Int32.ofNat len)), .val .null, .val (.ref s.heap.size)] [.int (Int32.ofNat N.slots.size), .ref s.heap.size, .ref a])) rfl (by rw [hml]; rfl) c10 (argsL := [.ref s.heap.size, .int (Int32.ofNat N.slots.size)]) (rest := [.ref a]) rfl rfl (by show 2 * 0 + (1 + 0) ≤ _; decide) (hb hbytes d45) (⟨rfl, n1⟩)
  obtain ⟨rfl, q11⟩ := E11
  have hB11 := hB1.mv (X8.warmed.alike.symm.trans X11.warmed.alike) q11
  have c12 : Steps p.tables e below (s₁.setTop (entryFrame m #[.ref a, .ref b, .int (Int32.ofNat o), .int (Int32.ofNat len), .null] 6)) (T11.setTop (mkF m 48 #[.val (.ref a), .val (.ref b), .val (.int (Int32.ofNat o)), .val (.int (Int32.ofNat len)), .val .null, .val (.ref s.heap.size)] [.int 0, .ref a])) := g11
  obtain ⟨T13, X13, p13, bl13, sl13, st13⟩ := X11.finit hexec hown (wk W (.fieldLink "java/lang/String" 15 "java/lang/String" "coder" "B")) (Or.inr ⟨_, (wk W (.laysFinal "java/lang/String" "java/lang/String" "coder" "B"))⟩) (Or.inl ⟨rfl, hnm⟩) f2 (Or.inl rfl) hB11 (t := .byte) (by decide +kernel) rfl (g := (mkF m 48 #[.val (.ref a), .val (.ref b), .val (.int (Int32.ofNat o)), .val (.int (Int32.ofNat len)), .val .null, .val (.ref s.heap.size)] [.int 0, .ref a])) rfl (rest := []) rfl (hb hbytes d48)
  have c14 : Steps p.tables e below (s₁.setTop (entryFrame m #[.ref a, .ref b, .int (Int32.ofNat o), .int (Int32.ofNat len), .null] 6)) (T13.setTop (mkF m 54 #[.val (.ref a), .val (.ref b), .val (.int (Int32.ofNat o)), .val (.int (Int32.ofNat len)), .val .null, .val (.ref s.heap.size)] [.ref s.heap.size, .ref a])) := (c12.trans (st13 _ (Steps.refl _))).trans (by
    refine XS.aloadN X13.here hexec rfl (hb hbytes d51) rfl rfl ?_
    refine XS.aload X13.here hexec rfl (hb hbytes d52) rfl rfl ?_
    exact Steps.refl _)
  obtain ⟨T15, X15, p15, bl15, sl15, st15⟩ := X13.finit hexec hown (wk W (.fieldLink "java/lang/String" 9 "java/lang/String" "value" "[B")) (Or.inr ⟨_, (wk W (.laysFinal "java/lang/String" "java/lang/String" "value" "[B"))⟩) (Or.inl ⟨rfl, hnm⟩) f1 (Or.inl rfl) bl13 (t := (.array .byte)) (by decide +kernel) rfl (g := (mkF m 54 #[.val (.ref a), .val (.ref b), .val (.int (Int32.ofNat o)), .val (.int (Int32.ofNat len)), .val .null, .val (.ref s.heap.size)] [.ref s.heap.size, .ref a])) rfl (rest := []) rfl (hb hbytes d54)
  have c16 : Steps p.tables e below (s₁.setTop (entryFrame m #[.ref a, .ref b, .int (Int32.ofNat o), .int (Int32.ofNat len), .null] 6)) (T15.setTop (mkF m 57 #[.val (.ref a), .val (.ref b), .val (.int (Int32.ofNat o)), .val (.int (Int32.ofNat len)), .val .null, .val (.ref s.heap.size)] [])) := c14.trans (st15 _ (Steps.refl _))
  have ap := apart (Or.inr ⟨_, (wk W (.laysFinal "java/lang/String" "java/lang/String" "value" "[B"))⟩) (Or.inr ⟨_, (wk W (.laysFinal "java/lang/String" "java/lang/String" "coder" "B"))⟩) f1 f2 (t₁ := .array .byte) (t₂ := .byte) (by decide +kernel) (by decide +kernel) (by decide)
  have al := X8.warmed.alike.symm.trans X15.warmed.alike
  have n7 : T11.heap[s.heap.size]? = some N := by rw [q11]; exact n1.1
  exact ⟨T15, none, _, _, _, X15, by simp, rfl, by omega, (fun _ => rfl), ⟨rfl, _, N, bl15, ((Same.refl D _).set _ (by simp)).set _ (by simp), sl15, (Cell.slots_setSlot_ne _ ap).trans sl13, n1.keep al (p15.other hne (p13.other hne n7)), n2, by rw [al.findClass]; exact n3, n4, n5, fun y c h1 h2 => p15.other h1 (p13.other h1 (by rw [q11]; exact n6 y c h2)), by rw [p15.2.2, p13.2.2, q11]; exact z8⟩, fun fs hl => c16.trans (X15.returnOut hexec hret (hb hbytes d57) hl)⟩
end New4
namespace New1
def yN : MethodName := ⟨"java/lang/String", "<init>", "([C)V"⟩
abbrev yB : ByteArray := jdk_42_method_3_code
theorem d0 : decode yB 0 = .ok (.aload_n 0, 1) := by decide +kernel
theorem d1 : decode yB 1 = .ok (.aload_n 1, 1) := by decide +kernel
theorem d2 : decode yB 2 = .ok (.iconst 0, 1) := by decide +kernel
theorem d3 : decode yB 3 = .ok (.aload_n 1, 1) := by decide +kernel
theorem d4 : decode yB 4 = .ok (.arraylength, 1) := by decide +kernel
theorem d5 : decode yB 5 = .ok (.aconst_null, 1) := by decide +kernel
theorem d6 : decode yB 6 = .ok (.invokespecial 27, 3) := by decide +kernel
theorem d9 : decode yB 9 = .ok (.return_, 1) := by decide +kernel
def site : List Cond := [New4.tab] ++ initW "java/lang/String" 27 New4.yN
def tab : Cond := tabOf yN yB 2 none site
def P (a : Addr) (D : Cell) (fV fC : Field) (b : Addr) (A : Cell) (z : Int32) (args : Array Value) (s : State) : Prop := args = #[.ref a, .ref b] ∧ Blank "java/lang/String" a D s ∧ Found "java/lang/String" "value" "[B" fV s ∧ Found "java/lang/String" "coder" "B" fC s ∧ Ch b A s ∧ StaticIs s "java/lang/String" "COMPACT_STRINGS" "Z" (.int z) ∧ ¬ z = 0 ∧ 0 < A.slots.size ∧ A.slots.size ≤ 536870912 ∧ ∀ i, i < A.slots.size → ¬ 255 < cv A i
def E (a : Addr) (D : Cell) (fV fC : Field) (A : Cell) (r : Option Value) (s u : State) : Prop := Got a D fV fC A 0 A.slots.size r s u
/-- new String(chars), not empty, no char above 255: a Latin-1 String of their low bytes -/
theorem law (l : Launch) (a : Addr) (D : Cell) (fV fC : Field) (b : Addr) (A : Cell) (z : Int32) : Law l yN 2 1 3 52 yB 2 none site (P a D fV fC b A z) (E a D fV fC A) [⟨a, fC.slot⟩, ⟨a, fV.slot⟩] 1 A.slots.size := by
  refine Law.of_walk (plainFor_of_name (by decide +kernel)) (by decide +kernel) (by decide +kernel) (by decide) (fun _ _ h => by rw [h.1]; rfl) (fun _ U U' hal hh h => ⟨h.1, h.2.1.mv hal hh, h.2.2.1.al hal, h.2.2.2.1.al hal, h.2.2.2.2.1.mv hal hh, h.2.2.2.2.2.1.there hal hh, h.2.2.2.2.2.2⟩) (fun r U U' V V' h1 hal h2 h => Got.mv r U U' V V' h1 hal h2 h) ?_
  intro p e s m args below meth c s₁ X0 hexec hbytes hml hret hlk hnm hown hh0 W hP
  obtain ⟨rfl, hB, f1, f2, hA, s1, hz, l0, l2, hp⟩ := hP
  have c1 : Steps p.tables e below (s₁.setTop (entryFrame m #[.ref a, .ref b] 2)) (s₁.setTop (mkF m 0 #[.val (.ref a), .val (.ref b)] [])) := entry rfl
  have c2 : Steps p.tables e below (s₁.setTop (entryFrame m #[.ref a, .ref b] 2)) (s₁.setTop (mkF m 6 #[.val (.ref a), .val (.ref b)] [.null, .int (Int32.ofNat A.slots.size), .int 0, .ref b, .ref a])) := c1.trans (by
    refine XS.aloadN X0.here hexec rfl (hb hbytes d0) rfl rfl ?_
    refine XS.aloadN X0.here hexec rfl (hb hbytes d1) rfl rfl ?_
    refine iconstV X0.here hexec rfl 0 (hb hbytes d2) (by decide) ?_
    refine XS.aloadN X0.here hexec rfl (hb hbytes d3) rfl rfl ?_
    refine X0.alen hexec (hA.1.mv X0.warmed.alike hh0) rfl rfl (hb hbytes d4) ?_
    refine XS.aconstNull X0.here hexec rfl (hb hbytes d5) ?_
    exact Steps.refl _)
  obtain ⟨v3, T3, X3, E3, g3⟩ := X0.callN hexec (New4.law l a D fV fC b A z 0 A.slots.size) rfl hown (wks W (initW "java/lang/String" 27 New4.yN)) (W New4.tab (by simp only [site, List.mem_cons, List.mem_append, true_or, or_true])) (W := 0) (Nat.le_of_ble_eq_true rfl) (Nat.le_of_ble_eq_true rfl) (Nat.le_refl _) (by show 0 + A.slots.size ≤ A.slots.size; omega) (g := (mkF m 6 #[.val (.ref a), .val (.ref b)] [.null, .int (Int32.ofNat A.slots.size), .int (Int32.ofNat 0), .ref b, .ref a])) rfl (by rw [hml]; rfl) c2 (argsL := [.ref b, .int (Int32.ofNat 0), .int (Int32.ofNat A.slots.size), .null]) (rest := []) rfl rfl (by show 2 * 0 + 0 ≤ _; decide) (hb hbytes d6) (⟨rfl, hB.mv X0.warmed.alike hh0, f1.al X0.warmed.alike, f2.al X0.warmed.alike, hA.mv X0.warmed.alike hh0, s1.there X0.warmed.alike hh0, hz, l0, by omega, l2, fun i hi => by rw [Nat.zero_add]; exact hp i hi⟩)
  have e0 := Got.mv _ s₁ s _ _ hh0.symm (Vm.Alike.refl _) rfl E3
  obtain rfl := e0.1
  have c4 : Steps p.tables e below (s₁.setTop (entryFrame m #[.ref a, .ref b] 2)) (T3.setTop (mkF m 9 #[.val (.ref a), .val (.ref b)] [])) := g3
  exact ⟨T3, none, _, _, _, X3, by simp, rfl, by omega, (fun _ => rfl), e0, fun fs hl => c4.trans (X3.returnOut hexec hret (hb hbytes d9) hl)⟩
theorem pays {l : Launch} {R : Room} {p : Program} {e : Env} {below : List Frame} {s : State} {sargs : Array Value} {len W : Nat} (a : Addr) (D : Cell) (fV fC : Field) (b : Addr) (A : Cell) (z : Int32) (htab : tab.before sargs s = true) (hfr : 4 ≤ R.frames) (hlo : W + 65 ≤ R.locals) :
    Back l R p e below s sargs yN len W (fun A₁ a₁ => A₁.cells + 1 ≤ R.cells ∧ A₁.slots + A.slots.size ≤ R.slots ∧ P a D fV fC b A z a₁ A₁.U) (fun A₁ _ v₁ B₁ => E a D fV fC A v₁ A₁.U B₁.U ∧ B₁.locs = A₁.locs ++ [⟨a, fC.slot⟩, ⟨a, fV.slot⟩] ∧ B₁.cells = A₁.cells + 1 ∧ B₁.slots = A₁.slots + A.slots.size) :=
  (law l a D fV fC b A z).pays htab hfr (by omega)
end New1
end StrChars
namespace StrChars.Road
open Jvm Sem ClassFile Op Lib Jvm.Stand Jvm.Free Jvm.Free.XT
open Jvm.Lib.Cold (StaticIs)
abbrev ST : String := "java/lang/String"
/-- every table word that New1's law asks, flat -/
abbrev words : List Jvm.Cond := [.code New1.yN New1.yB 2 none, .initialized ST, .methodLink ST 27 New4.yN, .instanceMethod New4.yN,
  .code New4.yN New4.yB 6 none, .fieldLink ST 38 ST "COMPACT_STRINGS" "Z", .laysFinal ST ST "value" "[B", .fieldLink ST 9 ST "value" "[B", .laysFinal ST ST "coder" "B", .fieldLink ST 15 ST "coder" "B",
  .methodLink ST 1 Lib.objectInit, .instanceMethod Lib.objectInit, .code Lib.objectInit ⟨#[0xb1]⟩ 1 none, .methodLink ST 177 Cmp3.yN, .static Cmp3.yN, .methodLink ST 47 CodL.yN, .static CodL.yN,
  .code Cmp3.yN Cmp3.yB 6 (some (.array .byte)), .initialized U16, .arrayClass .byte, .methodLink U16 115 Cmp5.yN, .static Cmp5.yN, .code Cmp5.yN Cmp5.yB 7 (some .int), .code CodL.yN CodL.yB 2 (some .byte)]
theorem tab_of {a : Array Value} {s : State} (h : ∀ w ∈ words, w.before a s = true) : New1.tab.before a s = true := by
  have h5 : Cmp5.tab.before a s = true := unparts (wk h (.code Cmp5.yN Cmp5.yB 7 (some .int))) (wks h (.initialized Cmp5.yN.cls :: Cmp5.site))
  have hc : CodL.tab.before a s = true := unparts (wk h (.code CodL.yN CodL.yB 2 (some .byte))) (wks h (.initialized CodL.yN.cls :: CodL.site))
  have q5 : ∀ w ∈ Cmp5.tab :: words, w.before a s = true := fun w hw => (List.mem_cons.mp hw).elim (fun e => e ▸ h5) (h w)
  have h3 : Cmp3.tab.before a s = true := unparts (wk q5 (.code Cmp3.yN Cmp3.yB 6 (some (.array .byte)))) (wks q5 (.initialized Cmp3.yN.cls :: Cmp3.site))
  have q3 : ∀ w ∈ Cmp3.tab :: CodL.tab :: words, w.before a s = true := fun w hw => (List.mem_cons.mp hw).elim (fun e => e ▸ h3) fun hw => (List.mem_cons.mp hw).elim (fun e => e ▸ hc) (h w)
  have h4 : New4.tab.before a s = true := unparts (wk q3 (.code New4.yN New4.yB 6 none)) (wks q3 (.initialized New4.yN.cls :: New4.site))
  have q4 : ∀ w ∈ New4.tab :: words, w.before a s = true := fun w hw => (List.mem_cons.mp hw).elim (fun e => e ▸ h4) (h w)
  exact unparts (wk q4 (.code New1.yN New1.yB 2 none)) (wks q4 (.initialized New1.yN.cls :: New1.site))
/-- the words ride from the start Z to the walk's own state -/
theorem moved {Z s : State} {a0 args : Array Value} (hZ : Z.Warmed39 s.vm) (hw : ∀ d ∈ words, d.before a0 Z = true) : ∀ d ∈ words, d.before args s = true := fun d hd => by
  have q := hw d hd
  have t : ∀ d ∈ words, d = .arrayClass .byte ∨ (d.onTables && d.keepsFace) = true := by decide +kernel
  rcases t d hd with rfl | t
  · exact RoadKit.mvA hZ q
  · exact RoadKit.mv hZ q t
/-- WHAT COMES BACK, over the tables of the start Z: h the heap at the call, h' behind it -/
def Q (Z : State) (x : Addr) (A : Cell) (h : Heap) (v : Option Value) (h' : Heap) (L : List Loc) : Prop := v = none ∧ (∀ y ∈ L, y.base = x) ∧ RoadKit.Keep h h' [x] ∧ h'.size = h.size + 1 ∧ RoadKit.Exa Z h' x ST ∧ RoadKit.Fld Z h' x ST "value" "[B" (.ref h.size) ∧ RoadKit.Fld Z h' x ST "coder" "B" (.int 0) ∧
  (∃ V : Cell, RoadKit.Arr Z h' h.size V .byte ∧ V.vm = .none ∧ Z.vm.findClass "[B" = some V.cls ∧ V.slots.size = A.slots.size ∧ ∀ j, j < A.slots.size → V.slots[j]? = some (.int (lo8 (cv A j)))) ∧
  ∀ (O n d : String) (w : Value), RoadKit.Fld Z h x O n d w → RoadKit.slotOf Z O n d ≠ RoadKit.slotOf Z ST "value" "[B" → RoadKit.slotOf Z O n d ≠ RoadKit.slotOf Z ST "coder" "B" → RoadKit.Fld Z h' x O n d w
/-- **new String(chars) AT A CALL, IN THE ROAD'S FORM**: for specialBack behind newO: x the fresh String, b the char[] with the cell A -/
theorem back {p : Program} {l : Launch} {e : Env} {R : Room} {s : State} {args : Array Value} {below : List Frame} {len W : Nat} {Z : State} {a0 : Array Value} {h : Heap} (hZ : Z.Warmed39 s.vm) (hw : ∀ d ∈ words, d.before a0 Z = true) {kI : Nat} (wi : (Jvm.Cond.instantiable ST kI).before a0 Z = true)
    {x b : Addr} {A : Cell} {z : Int32} {v0 c0 : Value} (E : RoadKit.Exa Z h x ST) (V : RoadKit.Fld Z h x ST "value" "[B" v0) (C : RoadKit.Fld Z h x ST "coder" "B" c0) (K : RoadKit.Arr Z h b A .char) (hty : Typed .char A) (S : RoadKit.Sta Z h ST "COMPACT_STRINGS" "Z" (.int z)) (hz : ¬ z = 0)
    (l0 : 0 < A.slots.size) (l2 : A.slots.size ≤ 536870912) (hp : ∀ i, i < A.slots.size → ¬ 255 < cv A i) (hfr : 4 ≤ R.frames) (hlo : W + 65 ≤ R.locals) :
    Back l R p e below s args New1.yN len W (fun P a => a = #[.ref x, .ref b] ∧ P.U.heap = h ∧ P.cells + 1 ≤ R.cells ∧ P.slots + A.slots.size ≤ R.slots)
      (fun P _ v B => ∃ L, Q Z x A h v B.U.heap L ∧ B.locs = P.locs ++ L ∧ B.cells = P.cells + 1 ∧ B.slots = P.slots + A.slots.size) := by
  intro m meth c P g ig mk a X hg hsize hdg hW hn hp'
  obtain ⟨rfl, rfl, r1, r2⟩ := hp'
  have al : Z.vm.Alike P.U.vm := hZ.alike.trans X.warmed.alike
  obtain ⟨D, cfV, kV, iV, fV, hD, gV, stV, knV, obV, asV, slV⟩ := id V
  obtain ⟨D', cfC, kC, iC, fC, hD', gC, stC, -, -, asC, slC⟩ := id C
  cases hD.symm.trans hD'
  obtain ⟨D2, kD, e1, e2, e3, e4, e5⟩ := id E
  cases hD.symm.trans e1
  obtain ⟨c2, k2, i1, i2, i3, -⟩ := Cond.instantiable_spec wi
  cases e2.symm.trans i1
  cases e3.symm.trans i2
  obtain ⟨kU, u1, u2⟩ := al.2.2 _ _ e3
  have hB : Blank ST x D P.U := ⟨hD, ⟨knV, fun q hq => by rw [hq] at obV; cases obV⟩, by rw [al.findClass]; exact e2, kU, u1, by rw [u2]; exact i3, by rw [u2]; exact e5 i3⟩
  have F1 : Found ST "value" "[B" fV P.U := ⟨SBG.found_only al ⟨cfV, kV, iV, gV⟩, stV⟩
  have F2 : Found ST "coder" "B" fC P.U := ⟨SBG.found_only al ⟨cfC, kC, iC, gC⟩, stC⟩
  have hA : Ch b A P.U := ⟨⟨K.1, State.isArrayOf_alike al K.2.1, K.2.2, by omega⟩, hty⟩
  have hS : StaticIs P.U ST "COMPACT_STRINGS" "Z" (.int z) := by
    obtain ⟨cfS, iS, kS, fS, st, cS, t1, t2, t3, t4, t5, t6, t7⟩ := S
    exact StaticIs.there (s := { Z with heap := P.U.heap }) ⟨cfS, iS, kS, fS, st, cS, t1, t2, t3, t4, t5, (fun q => by rw [q] at t6; cases t6), t7⟩ al rfl
  obtain ⟨v, B, X', ⟨⟨hv, E', V', q1, q2, q3, q4, q5, q6, q7, q8, q9, q10, q11⟩, hl, hc, hs⟩, st⟩ := New1.pays x D fV fC b A z (tab_of (moved hZ hw)) hfr hlo m meth c P g ig mk _ X hg hsize hdg hW hn ⟨r1, r2, rfl, hB, F1, F2, hA, hS, hz, l0, l2, hp⟩
  have al' : Z.vm.Alike B.U.vm := hZ.alike.trans X'.warmed.alike
  have hsz : E'.slots.size = D.slots.size := by
    obtain ⟨-, -, -, kB, w1, w2, w3⟩ := q1
    obtain ⟨kB', y1, y2⟩ := al'.2.2 _ _ e3
    rw [q2.2.1] at w1
    cases w1.symm.trans y1
    rw [w3, e5 i3, y2]
  refine ⟨v, B, X', ⟨_, ⟨hv, ?_, ⟨by omega, fun y cy hy hn' => q10 y cy (by simpa using hn') hy, fun y cy hy => ?_⟩, q11, ⟨E', _, q1.1, by rw [q2.2.1]; exact e2, by rw [q2.2.1]; exact e3, by rw [q2.1]; exact obV, fun _ => by rw [hsz]; exact e5 i3⟩,
    ⟨E', cfV, kV, iV, fV, q1.1, gV, stV, by rw [q2.1]; exact knV, by rw [q2.1]; exact obV, by rw [q2.2.1]; exact asV, q3⟩, ⟨E', cfC, kC, iC, fC, q1.1, gC, stC, by rw [q2.1]; exact knV, by rw [q2.1]; exact obV, by rw [q2.2.1]; exact asC, q4⟩,
    ⟨V', ⟨q5.1, State.isArrayOf_alike al'.symm q5.2.1, q5.2.2.1⟩, q6, by rw [← al'.findClass]; exact q7, q8, fun j hj => by have := q9 j hj; rwa [Nat.zero_add] at this⟩, fun O n d w F n1 n2 => ?_⟩, hl, hc, hs⟩, st⟩
  · intro y hy
    simp only [List.mem_cons, List.not_mem_nil, or_false] at hy
    rcases hy with rfl | rfl <;> rfl
  · by_cases q : y = x
    · subst q
      cases hD.symm.trans hy
      exact ⟨E', q1.1, q2.2.1, q2.1, hsz⟩
    · exact ⟨cy, q10 y cy q hy, rfl, rfl, rfl⟩
  · obtain ⟨D3, cf, k, i, f, g1, g2, g3, g4, g5, g6, g7⟩ := F
    cases hD.symm.trans g1
    simp only [RoadKit.slotOf, g2, gV, gC, Option.map_some, Option.getD_some] at n1 n2
    exact ⟨E', cf, k, i, f, q1.1, g2, g3, by rw [q2.1]; exact g4, by rw [q2.1]; exact g5, by rw [q2.2.1]; exact g6, by rw [q2.2.2 f.slot (by simp [n1, n2])]; exact g7⟩
end StrChars.Road
namespace StrChars.Road
open Jvm Sem ClassFile Op Lib Jvm.Stand Jvm.Free Jvm.Free.XT
/-- WHAT COMES BACK, the byte[] as a list of values -/
def QA (Z : State) (x : Addr) (zn : Int32) (cs : List Int32) (h : Heap) (v : Option Value) (h' : Heap) (L : List Loc) : Prop := v = none ∧ (∀ y ∈ L, y.base = x) ∧ RoadKit.Keep h h' [x] ∧ h'.size = h.size + 1 ∧ RoadKit.Exa Z h' x ST ∧ RoadKit.Fld Z h' x ST "value" "[B" (.ref h.size) ∧ RoadKit.Fld Z h' x ST "coder" "B" (.int 0) ∧
  (∃ kb, Z.vm.findClass "[B" = some kb ∧ RoadKit.Arv Z h' h.size kb .byte zn (cs.map fun c => .int (lo8 c)) (.int 0)) ∧
  ∀ (O n d : String) (w : Value), RoadKit.Fld Z h x O n d w → RoadKit.slotOf Z O n d ≠ RoadKit.slotOf Z ST "value" "[B" → RoadKit.slotOf Z O n d ≠ RoadKit.slotOf Z ST "coder" "B" → RoadKit.Fld Z h' x O n d w
/-- **new String(chars) AT A CALL, THE ARRAYS AS LISTS**: the char[] at b holds cs, not empty, no char above 255 -/
theorem backArv {p : Program} {l : Launch} {e : Env} {R : Room} {s : State} {args : Array Value} {below : List Frame} {len W : Nat} {Z : State} {a0 : Array Value} {h : Heap} (hZ : Z.Warmed39 s.vm) (hw : ∀ d ∈ words, d.before a0 Z = true) {kI : Nat} (wi : (Jvm.Cond.instantiable ST kI).before a0 Z = true)
    {x b : Addr} {k : ClassId} {zn z : Int32} {cs : List Int32} {dv v0 c0 : Value} (E : RoadKit.Exa Z h x ST) (V : RoadKit.Fld Z h x ST "value" "[B" v0) (C : RoadKit.Fld Z h x ST "coder" "B" c0) (K : RoadKit.Arv Z h b k .char zn (cs.map Value.int) dv) (S : RoadKit.Sta Z h ST "COMPACT_STRINGS" "Z" (.int z)) (hz : ¬ z = 0)
    (hlen : zn.toNatClampNeg = cs.length) (h0 : 0 < cs.length) (hbig : cs.length ≤ 536870912) (hall : ∀ c ∈ cs, ¬ 255 < c) (hfr : 4 ≤ R.frames) (hlo : W + 65 ≤ R.locals) :
    Back l R p e below s args New1.yN len W (fun P a => a = #[.ref x, .ref b] ∧ P.U.heap = h ∧ P.cells + 1 ≤ R.cells ∧ P.slots + cs.length ≤ R.slots)
      (fun P _ v B => ∃ L, QA Z x zn cs h v B.U.heap L ∧ B.locs = P.locs ++ L ∧ B.cells = P.cells + 1 ∧ B.slots = P.slots + cs.length) := by
  obtain ⟨A, K1, K2, K3, K4, K5, K6⟩ := K
  have e : A.slots.size = cs.length := K3.trans hlen
  have hat : ∀ (i : Nat) (hi : i < cs.length), A.slots[i]? = some (.int cs[i]) := fun i hi => by rw [K5 i (by omega)]; simp [List.getD_eq_getElem?_getD, hi]
  have hcv : ∀ (i : Nat) (hi : i < cs.length), cv A i = cs[i] := fun i hi => by unfold cv; rw [hat i hi]
  have hty : Typed .char A := fun i v hv => by
    have hi : i < A.slots.size := (Array.getElem?_eq_some_iff.mp hv).1
    have q := K5 i hi
    rw [hv] at q
    rw [Option.some.inj q]
    exact K6 i hi
  refine Back.mono (back hZ hw wi E V C K1 hty S hz (by omega) (by omega) (fun i hi => by rw [hcv i (by omega)]; exact hall _ (List.getElem_mem _)) hfr hlo) (fun P a hp => ⟨hp.1, hp.2.1, hp.2.2.1, by rw [e]; exact hp.2.2.2⟩) (fun P a v B hp hq => ?_)
  obtain ⟨L, ⟨q1, q2, q3, q4, q5, q6, q7, ⟨V', v1, v2, v3, v4, v5⟩, q9⟩, hl, hc, hs⟩ := hq
  refine ⟨L, ⟨q1, q2, q3, q4, q5, q6, q7, ⟨V'.cls, v3, V', v1, rfl, by rw [v4, e, hlen], K4, fun i hi => ?_, fun i hi => ?_⟩, q9⟩, hl, hc, by rw [hs, e]⟩
  · have hi' : i < cs.length := by omega
    rw [v5 i (by omega), hcv i hi']; simp [List.getD_eq_getElem?_getD, hi']
  · have hi' : i < cs.length := by omega
    simp only [List.getD_eq_getElem?_getD, List.getElem?_map, List.getElem?_eq_getElem hi', Option.map_some, Option.getD_some]
    exact fits_lo8 _
end StrChars.Road
namespace StrChars.Road
open Jvm Sem ClassFile Op Lib Jvm.Stand Jvm.Free Jvm.Free.XT
/-- WHAT COMES BACK, in the writer's own shape -/
def QV (Z : State) (x : Addr) (N : Int32) (bs : List Int32) (h : Heap) (n0 : Nat) (v : Option Value) (h' : Heap) (L : List Loc) : Prop := v = none ∧ RoadKit.Fr n0 L ∧ RoadKit.Keep h h' [x] ∧ RoadKit.Exa Z h' x ST ∧ RoadKit.Fld Z h' x ST "coder" "B" (.int 0) ∧
  ∃ (t : Addr) (kb : ClassId), n0 ≤ t ∧ h.size ≤ t ∧ ¬ t = x ∧ RoadKit.Fld Z h' x ST "value" "[B" (.ref t) ∧ RoadKit.Arv Z h' t kb .byte N (bs.map Value.int) (.int 0)
/-- **new String(chars) AT A CALL, FOR THE WRITER**: a char[] of n known ints, each 0 to 255 -/
theorem backV {p : Program} {l : Launch} {e : Env} {R : Room} {s : State} {args : Array Value} {below : List Frame} {len W : Nat} {Z : State} {a0 : Array Value} {h : Heap} (hZ : Z.Warmed39 s.vm) (hw : ∀ d ∈ words, d.before a0 Z = true) {kI : Nat} (wi : (Jvm.Cond.instantiable ST kI).before a0 Z = true)
    {x b : Addr} {kC : ClassId} {cs bs : List Int32} {d v0 c0 : Value} {z N : Int32} {n n0 : Nat} (hx0 : n0 ≤ x) (hh0 : n0 ≤ h.size) (E : RoadKit.Exa Z h x ST) (V : RoadKit.Fld Z h x ST "value" "[B" v0) (C : RoadKit.Fld Z h x ST "coder" "B" c0) (K : RoadKit.Arv Z h b kC .char N (cs.map Value.int) d) (S : RoadKit.Sta Z h ST "COMPACT_STRINGS" "Z" (.int z)) (hz : ¬ z = 0)
    (hn : cs.length = n) (hN : N = Int32.ofNat n) (l0 : 0 < n) (l2 : n ≤ 4000) (hp : ∀ c ∈ cs, ¬ c < 0 ∧ ¬ (255 : Int32) < c) (hb : bs = cs.map (fun c => c.toInt8.toInt32)) (hfr : 4 ≤ R.frames) (hlo : W + 65 ≤ R.locals) :
    Back l R p e below s args (⟨"java/lang/String", "<init>", "([C)V"⟩ : MethodName) len W (fun P a => a = #[.ref x, .ref b] ∧ P.U.heap = h ∧ P.cells + 1 ≤ R.cells ∧ P.slots + n ≤ R.slots)
      (fun P _ v B => ∃ L, QV Z x N bs h n0 v B.U.heap L ∧ B.locs = P.locs ++ L ∧ B.cells = P.cells + 1 ∧ B.slots = P.slots + n) := by
  subst hn hN hb
  refine Back.mono (backArv hZ hw wi E V C K S hz (n32 (by omega)) l0 (by omega) (fun c hc => (hp c hc).2) hfr hlo) (fun P a hp => hp) (fun P a v B hp hq => ?_)
  obtain ⟨L, ⟨q1, q2, q3, q4, q5, q6, q7, ⟨kb, v1, v2⟩, q9⟩, hl, hc, hs⟩ := hq
  exact ⟨L, ⟨q1, fun y hy => by rw [q2 y hy]; exact hx0, q3, q5, q7, h.size, kb, hh0, Nat.le_refl _, Nat.ne_of_gt E.lt, q6, by rw [List.map_map]; exact v2⟩, hl, hc, hs⟩
end StrChars.Road
namespace StrChars
open Jvm Sem ClassFile Op Lib Jvm.Stand Jvm.Free.XT Jvm.Free.ALB Jvm.Free.JM Jvm.Free
open Jvm.Lib.Cold (StaticIs)
def hi8 (x : Int32) : Int32 := lo8 (x >>> ((8 : Int32) &&& 31))
/-- what StringUTF16.getChar makes of two bytes -/
def pairCh (u v : Int32) : Int32 := (((u &&& 255) <<< ((0 : Int32) &&& 31)) ||| ((v &&& 255) <<< ((8 : Int32) &&& 31))).toUInt32.toUInt16.toUInt32.toInt32
theorem shr0 (c : Int32) : c >>> ((0 : Int32) &&& 31) = c := by
  have e : ((0 : Int32) &&& 31) = 0 := by decide
  rw [e]
  apply Int32.toBitVec_inj.mp
  rw [Int32.toBitVec_shiftRight]
  have e1 : ((0 : Int32).toBitVec.smod 32) = 0#32 := by decide
  rw [e1, BitVec.sshiftRight_eq']
  exact BitVec.sshiftRight_zero
theorem lo8_and (x : Int32) : (lo8 x &&& 255).toBitVec.toNat = x.toBitVec.toNat % 256 := by
  have h : (lo8 x).toBitVec = (x.toBitVec.signExtend 8).signExtend 32 := by rw [lo8, Int8.toBitVec_toInt32, Int32.toBitVec_toInt8]
  rw [Int32.toBitVec_and, BitVec.toNat_and, h]
  have e : ((x.toBitVec.signExtend 8).signExtend 32).toNat % 256 = x.toBitVec.toNat % 256 := by
    rw [BitVec.toNat_signExtend]
    have hlt := x.toBitVec.isLt
    simp only [BitVec.toNat_setWidth, BitVec.toNat_signExtend]
    split <;> split <;> omega
  rw [← e]
  exact Nat.and_two_pow_sub_one_eq_mod _ 8
theorem pair_says {c : Int32} (h0 : ¬ c < 0) (h1 : ¬ 65535 < c) : pairCh (lo8 c) (hi8 c) = c := by
  rw [Int32.lt_iff_toInt_lt] at h0 h1
  have e0 : (0 : Int32).toInt = 0 := rfl
  have e1 : (65535 : Int32).toInt = 65535 := rfl
  have hc : c.toInt = c.toBitVec.toNat := by
    have := c.toBitVec.isLt
    have e : c.toInt = c.toBitVec.toInt := rfl
    rw [e] at h0 h1
    rw [e]
    rw [BitVec.toInt_eq_toNat_cond] at h0 h1 ⊢
    split at h0 <;> split <;> omega
  have hn : c.toBitVec.toNat < 65536 := by omega
  have a1 := lo8_and c
  have a2 : (hi8 c &&& 255).toBitVec.toNat = c.toBitVec.toNat / 256 := by
    rw [hi8, lo8_and]
    have e : ((8 : Int32) &&& 31) = 8 := by decide
    rw [e, Int32.toBitVec_shiftRight]
    have e2 : ((8 : Int32).toBitVec.smod 32) = 8#32 := by decide
    rw [e2, BitVec.sshiftRight_eq', BitVec.toNat_sshiftRight_of_msb_false (by rw [BitVec.msb_eq_false_iff_two_mul_lt]; omega)]
    show c.toBitVec.toNat >>> 8 % 256 = _
    rw [Nat.shiftRight_eq_div_pow]
    omega
  unfold pairCh
  apply Int32.toBitVec_inj.mp
  apply BitVec.eq_of_toNat_eq
  have f0 : ((0 : Int32) &&& 31) = 0 := by decide
  have f8 : ((8 : Int32) &&& 31) = 8 := by decide
  rw [f0, f8]
  have g : (((lo8 c &&& 255) <<< (0 : Int32)) ||| ((hi8 c &&& 255) <<< (8 : Int32))).toBitVec.toNat = c.toBitVec.toNat := by
    rw [Int32.toBitVec_or, Int32.toBitVec_shiftLeft, Int32.toBitVec_shiftLeft]
    have s0 : ((0 : Int32).toBitVec.smod 32) = 0#32 := by decide
    have s8 : ((8 : Int32).toBitVec.smod 32) = 8#32 := by decide
    rw [s0, s8, BitVec.toNat_or]
    simp only [BitVec.shiftLeft_eq', BitVec.toNat_shiftLeft, a1, a2]
    show (c.toBitVec.toNat % 256) <<< 0 % 2 ^ 32 ||| (c.toBitVec.toNat / 256) <<< 8 % 2 ^ 32 = _
    rw [Nat.shiftLeft_zero, Nat.mod_eq_of_lt (show c.toBitVec.toNat % 256 < 2 ^ 32 by omega), Nat.mod_eq_of_lt (show (c.toBitVec.toNat / 256) <<< 8 < 2 ^ 32 by rw [Nat.shiftLeft_eq]; omega), Nat.or_comm, ← Nat.shiftLeft_add_eq_or_of_lt (by omega), Nat.shiftLeft_eq]
    omega
  show BitVec.toNat (((((lo8 c &&& 255) <<< (0 : Int32)) ||| ((hi8 c &&& 255) <<< (8 : Int32))).toBitVec.setWidth 16).setWidth 32) = _
  rw [BitVec.toNat_setWidth, BitVec.toNat_setWidth, g]
  omega
end StrChars
namespace StrChars
open Jvm Sem ClassFile Op Lib Jvm.Stand Jvm.Free.XT Jvm.Free.ALB Jvm.Free.JM Jvm.Free
open Jvm.Lib.Cold (StaticIs)
theorem shr1 {n : Nat} (h : 2 * n < 2 ^ 31) : Int32.ofNat (2 * n) >>> ((1 : Int32) &&& 31) = Int32.ofNat n := by
  have e : ((1 : Int32) &&& 31) = 1 := by decide
  rw [e]
  apply Int32.toBitVec_inj.mp
  rw [Int32.toBitVec_shiftRight]
  have e1 : ((1 : Int32).toBitVec.smod 32) = 1#32 := by decide
  have hm : (BitVec.ofNat 32 (2 * n)).toNat = 2 * n := by rw [BitVec.toNat_ofNat, Nat.mod_eq_of_lt (by omega)]
  rw [e1, BitVec.sshiftRight_eq']
  apply BitVec.eq_of_toNat_eq
  show ((BitVec.ofNat 32 (2 * n)).sshiftRight 1).toNat = (BitVec.ofNat 32 n).toNat
  rw [BitVec.toNat_sshiftRight_of_msb_false (by rw [BitVec.msb_eq_false_iff_two_mul_lt, hm]; omega), hm, BitVec.toNat_ofNat, Nat.shiftRight_eq_div_pow]
  omega
/-- the array's cell V codes the n chars f 0 .. f (n - 1) by the coder cd, as the JDK does: coder 1 just where some char is above 255 -/
def Cod (cd : Int32) (n : Nat) (f : Nat → Int32) (V : Cell) : Prop := (cd = 0 ∧ V.slots.size = n ∧ ∀ j, j < n → V.slots[j]? = some (.int (lo8 (f j))) ∧ ¬ 255 < f j) ∨ (cd = 1 ∧ V.slots.size = 2 * n ∧ (∀ j, j < n → V.slots[2 * j]? = some (.int (lo8 (f j))) ∧ V.slots[2 * j + 1]? = some (.int (hi8 (f j)))) ∧ ∃ j, j < n ∧ 255 < f j)
theorem Cod.cd {cd : Int32} {n : Nat} {f : Nat → Int32} {V : Cell} (h : Cod cd n f V) : cd = 0 ∨ cd = 1 := h.imp (fun q => q.1) fun q => q.1
theorem Cod.len {cd : Int32} {n : Nat} {f : Nat → Int32} {V : Cell} (h : Cod cd n f V) (hs : V.slots.size < 2 ^ 31) : Int32.ofNat V.slots.size >>> (cd &&& 31) = Int32.ofNat n := by
  rcases h with ⟨rfl, h, -⟩ | ⟨rfl, h, -⟩
  · rw [shr0, h]
  · rw [h, shr1 (by omega)]
/-- **x is a String of the n chars f 0 .. f (n - 1)**, Latin-1 or UTF-16; its array at t has the cell V -/
def Txt (x t : Addr) (V : Cell) (cd : Int32) (n : Nat) (f : Nat → Int32) (U : State) : Prop := Exact "java/lang/String" x U ∧ Has x "java/lang/String" "value" "[B" (.ref t) U ∧ Has x "java/lang/String" "coder" "B" (.int cd) U ∧ XT.Arr .byte t V U ∧ Cod cd n f V ∧ ∀ j, j < n → ¬ f j < 0 ∧ ¬ 65535 < f j
theorem Txt.mv {x t : Addr} {V : Cell} {cd : Int32} {n : Nat} {f : Nat → Int32} {U U' : State} (h : Txt x t V cd n f U) (hal : U.vm.Alike U'.vm) (hh : U'.heap = U.heap) : Txt x t V cd n f U' := ⟨h.1.mv hal hh, h.2.1.mv hal hh, h.2.2.1.mv hal hh, h.2.2.2.1.mv hal hh, h.2.2.2.2⟩
namespace Cdr
def yN : MethodName := ⟨"java/lang/String", "coder", "()B"⟩
abbrev yB : ByteArray := jdk_42_method_152_code
theorem d0 : decode yB 0 = .ok (.getstatic 38, 3) := by decide +kernel
theorem d3 : decode yB 3 = .ok (.ifCond (.eq) 10, 3) := by decide +kernel
theorem d6 : decode yB 6 = .ok (.aload_n 0, 1) := by decide +kernel
theorem d7 : decode yB 7 = .ok (.getfield 15, 3) := by decide +kernel
theorem d10 : decode yB 10 = .ok (.goto 4, 3) := by decide +kernel
theorem d14 : decode yB 14 = .ok (.ireturn, 1) := by decide +kernel
def site : List Cond := [.fieldLink "java/lang/String" 38 "java/lang/String" "COMPACT_STRINGS" "Z", .fieldLink "java/lang/String" 15 "java/lang/String" "coder" "B"]
def tab : Cond := tabOf yN yB 1 (some .byte) site
def P (x : Addr) (cd z : Int32) (args : Array Value) (s : State) : Prop := args = #[.ref x] ∧ Has x "java/lang/String" "coder" "B" (.int cd) s ∧ (cd = 0 ∨ cd = 1) ∧ StaticIs s "java/lang/String" "COMPACT_STRINGS" "Z" (.int z) ∧ ¬ z = 0
def E (cd : Int32) (r : Option Value) (s u : State) : Prop := XT.PureE (some (.int cd)) r s u
theorem law (l : Launch) (x : Addr) (cd z : Int32) : Law l yN 1 0 0 0 yB 1 (some .byte) site (P x cd z) (E cd) [] 0 0 := by
  refine Law.of_walk (plainFor_of_name (by decide +kernel)) (by decide +kernel) (by decide +kernel) (by decide) (fun _ _ h => by rw [h.1]; rfl) (fun _ U U' hal hh h => ⟨h.1, h.2.1.mv hal hh, h.2.2.1, h.2.2.2.1.there hal hh, h.2.2.2.2⟩) (fun r U U' V V' h1 hal h2 h => XT.PureE.mv r U U' V V' h1 hal h2 h) ?_
  intro p e s m args below meth c s₁ X0 hexec hbytes hml hret hlk hnm hown hh0 W hP
  obtain ⟨rfl, hx, hc, s1, hz⟩ := hP
  have c1 : Steps p.tables e below (s₁.setTop (entryFrame m #[.ref x] 1)) (s₁.setTop (mkF m 0 #[.val (.ref x)] [])) := entry rfl
  obtain ⟨T2, X2, q2, st2⟩ := X0.sget hexec hown (wk W (.fieldLink "java/lang/String" 38 "java/lang/String" "COMPACT_STRINGS" "Z")) s1 (fun _ _ h => by rw [hh0]; exact h) (g := (mkF m 0 #[.val (.ref x)] [])) rfl (hb hbytes d0)
  have hh2 := q2.trans hh0
  have c3 : Steps p.tables e below (s₁.setTop (entryFrame m #[.ref x] 1)) (T2.setTop (mkF m 7 #[.val (.ref x)] [.ref x])) := (c1.trans (st2 _ (Steps.refl _))).trans (by
    refine XS.ifNo X2.here hexec rfl (hb hbytes d3) rfl (i0_eq_f hz) ?_
    refine XS.aloadN X2.here hexec rfl (hb hbytes d6) rfl rfl ?_
    exact Steps.refl _)
  obtain ⟨T4, X4, q4, st4⟩ := X2.hget hexec hown (wk W (.fieldLink "java/lang/String" 15 "java/lang/String" "coder" "B")) (hx.mv X2.warmed.alike hh2) (g := (mkF m 7 #[.val (.ref x)] [.ref x])) rfl (rest := []) rfl (hb hbytes d7)
  have c5 : Steps p.tables e below (s₁.setTop (entryFrame m #[.ref x] 1)) (T4.setTop (mkF m 14 #[.val (.ref x)] [.int cd])) := (c3.trans (st4 _ (Steps.refl _))).trans (by
    refine XS.goto X4.here hexec rfl (pc0 := 10) rfl (hb hbytes d10) (by decide) rfl ?_
    exact Steps.refl _)
  exact ⟨T4, some (.int cd), _, _, _, X4, rfl, rfl, rfl, (fun h => by cases h), ⟨rfl, q4.trans hh2⟩, fun fs hl => c5.trans (X4.ireturnOut hexec hret (by rcases hc with rfl | rfl <;> rfl) (Or.inr (Or.inr (Or.inl rfl))) (hb hbytes d14) hl)⟩
end Cdr
namespace Len
def yN : MethodName := ⟨"java/lang/String", "length", "()I"⟩
abbrev yB : ByteArray := jdk_42_method_54_code
theorem d0 : decode yB 0 = .ok (.aload_n 0, 1) := by decide +kernel
theorem d1 : decode yB 1 = .ok (.getfield 9, 3) := by decide +kernel
theorem d4 : decode yB 4 = .ok (.arraylength, 1) := by decide +kernel
theorem d5 : decode yB 5 = .ok (.aload_n 0, 1) := by decide +kernel
theorem d6 : decode yB 6 = .ok (.invokevirtual 335, 3) := by decide +kernel
theorem d9 : decode yB 9 = .ok (.ishr, 1) := by decide +kernel
theorem d10 : decode yB 10 = .ok (.ireturn, 1) := by decide +kernel
def site : List Cond := [.fieldLink "java/lang/String" 9 "java/lang/String" "value" "[B", Cdr.tab] ++ virtW "java/lang/String" 335 "java/lang/String" Cdr.yN Cdr.yN
def tab : Cond := tabOf yN yB 1 (some .int) site
def P (x t : Addr) (V : Cell) (cd : Int32) (n : Nat) (f : Nat → Int32) (z : Int32) (args : Array Value) (s : State) : Prop := args = #[.ref x] ∧ Txt x t V cd n f s ∧ StaticIs s "java/lang/String" "COMPACT_STRINGS" "Z" (.int z) ∧ ¬ z = 0
def E (n : Nat) (r : Option Value) (s u : State) : Prop := XT.PureE (some (.int (Int32.ofNat n))) r s u
/-- length() of a String of n chars, in either coding -/
theorem law (l : Launch) (x t : Addr) (V : Cell) (cd : Int32) (n : Nat) (f : Nat → Int32) (z : Int32) : Law l yN 1 0 1 13 yB 1 (some .int) site (P x t V cd n f z) (E n) [] 0 0 := by
  refine Law.of_walk (plainFor_of_name (by decide +kernel)) (by decide +kernel) (by decide +kernel) (by decide) (fun _ _ h => by rw [h.1]; rfl) (fun _ U U' hal hh h => ⟨h.1, h.2.1.mv hal hh, h.2.2.1.there hal hh, h.2.2.2⟩) (fun r U U' V V' h1 hal h2 h => XT.PureE.mv r U U' V V' h1 hal h2 h) ?_
  intro p e s m args below meth c s₁ X0 hexec hbytes hml hret hlk hnm hown hh0 W hP
  obtain ⟨rfl, hx, s1, hz⟩ := hP
  have v31 := hx.2.2.2.1.2.2.2
  have c1 : Steps p.tables e below (s₁.setTop (entryFrame m #[.ref x] 1)) (s₁.setTop (mkF m 1 #[.val (.ref x)] [.ref x])) := Steps.trans (entry rfl) (by
    show Steps p.tables e below (s₁.setTop (mkF m 0 #[.val (.ref x)] [])) _
    refine XS.aloadN X0.here hexec rfl (hb hbytes d0) rfl rfl ?_
    exact Steps.refl _)
  obtain ⟨T2, X2, q2, st2⟩ := X0.hget hexec hown (wk W (.fieldLink "java/lang/String" 9 "java/lang/String" "value" "[B")) (hx.mv X0.warmed.alike hh0).2.1 (g := (mkF m 1 #[.val (.ref x)] [.ref x])) rfl (rest := []) rfl (hb hbytes d1)
  have hh2 := q2.trans hh0
  have hx2 := hx.mv X2.warmed.alike hh2
  have c3 : Steps p.tables e below (s₁.setTop (entryFrame m #[.ref x] 1)) (T2.setTop (mkF m 6 #[.val (.ref x)] [.ref x, .int (Int32.ofNat V.slots.size)])) := (c1.trans (st2 _ (Steps.refl _))).trans (by
    refine X2.alen hexec hx2.2.2.2.1 rfl rfl (hb hbytes d4) ?_
    refine XS.aloadN X2.here hexec rfl (hb hbytes d5) rfl rfl ?_
    exact Steps.refl _)
  obtain ⟨v4, T4, X4, E4, g4⟩ := X2.callV hexec (Cdr.law l x cd z) hown (wks W (virtW "java/lang/String" 335 "java/lang/String" Cdr.yN Cdr.yN)) rfl (by decide) (wk W Cdr.tab) (W := 1) (Nat.le_of_ble_eq_true rfl) (Nat.le_of_ble_eq_true rfl) (Nat.le_refl _) (Nat.le_refl _) (hx2.1.fc X2.warmed.alike) hx2.1.is (g := (mkF m 6 #[.val (.ref x)] [.ref x, .int (Int32.ofNat V.slots.size)])) rfl (by rw [hml]; rfl) c3 (argsL := []) (rest := [.int (Int32.ofNat V.slots.size)]) rfl rfl (by show 2 * 0 + (1 + 0) ≤ _; decide) (hb hbytes d6) (⟨rfl, hx2.2.2.1, hx.2.2.2.2.1.cd, s1.there X2.warmed.alike hh2, hz⟩)
  obtain ⟨rfl, q4⟩ := E4
  have c5 : Steps p.tables e below (s₁.setTop (entryFrame m #[.ref x] 1)) (T4.setTop (mkF m 10 #[.val (.ref x)] [.int (Int32.ofNat V.slots.size >>> (cd &&& 31))])) := Steps.trans g4 (by
    refine ishr X4.here hexec rfl (hb hbytes d9) rfl ?_
    exact Steps.refl _)
  rw [hx.2.2.2.2.1.len v31] at c5
  exact ⟨T4, some (.int (Int32.ofNat n)), _, _, _, X4, rfl, rfl, rfl, (fun h => by cases h), ⟨rfl, q4.trans hh2⟩, fun fs hl => c5.trans (X4.ireturnOut hexec hret rfl (Or.inl rfl) (hb hbytes d10) hl)⟩
theorem pays {l : Launch} {R : Room} {p : Program} {e : Env} {below : List Frame} {s : State} {sargs : Array Value} {len W : Nat} (x t : Addr) (V : Cell) (cd : Int32) (n : Nat) (f : Nat → Int32) (z : Int32) (htab : tab.before sargs s = true) (hfr : 2 ≤ R.frames) (hlo : W + 25 ≤ R.locals) :
    Back l R p e below s sargs yN len W (fun A₁ a₁ => A₁.cells + 0 ≤ R.cells ∧ A₁.slots + 0 ≤ R.slots ∧ P x t V cd n f z a₁ A₁.U) (fun A₁ _ v₁ B₁ => E n v₁ A₁.U B₁.U ∧ B₁.locs = A₁.locs ++ [] ∧ B₁.cells = A₁.cells + 0 ∧ B₁.slots = A₁.slots + 0) :=
  (law l x t V cd n f z).pays htab hfr (by omega)
end Len
end StrChars
namespace StrChars.Road
open Jvm Sem ClassFile Op Lib Jvm.Stand Jvm.Free Jvm.Free.XT
open Jvm.Lib.Cold (StaticIs)
theorem consq {a : Array Value} {s : State} {c : Jvm.Cond} {L : List Jvm.Cond} (h0 : c.before a s = true) (h : ∀ w ∈ L, w.before a s = true) : ∀ w ∈ c :: L, w.before a s = true := fun w hw => (List.mem_cons.mp hw).elim (fun e => e ▸ h0) (h w)
/-- the words of String.length(), either coding -/
abbrev wordsLen : List Jvm.Cond := [.code Len.yN Len.yB 1 (some .int), .initialized ST, .fieldLink ST 9 ST "value" "[B", .fieldLink ST 38 ST "COMPACT_STRINGS" "Z", .fieldLink ST 15 ST "coder" "B", .code Cdr.yN Cdr.yB 1 (some .byte), .methodLink ST 335 Cdr.yN, .declares Cdr.yN, .selects ST Cdr.yN Cdr.yN, .instanceMethod Cdr.yN]
theorem tabLen_of {a : Array Value} {s : State} (h : ∀ w ∈ wordsLen, w.before a s = true) : Len.tab.before a s = true := by
  have hc : Cdr.tab.before a s = true := unparts (wk h (.code Cdr.yN Cdr.yB 1 (some .byte))) (wks h (.initialized Cdr.yN.cls :: Cdr.site))
  have q := consq hc h
  exact unparts (wk q (.code Len.yN Len.yB 1 (some .int))) (wks q (.initialized Len.yN.cls :: Len.site))
theorem movedLen {Z s : State} {a0 args : Array Value} (hZ : Z.Warmed39 s.vm) (hw : ∀ d ∈ wordsLen, d.before a0 Z = true) : ∀ d ∈ wordsLen, d.before args s = true := fun d hd => by
  have q := hw d hd
  have t : ∀ d ∈ wordsLen, d = .arrayClass .byte ∨ (d.onTables && d.keepsFace) = true := by decide +kernel
  rcases t d hd with rfl | t
  · exact RoadKit.mvA hZ q
  · exact RoadKit.mv hZ q t
/-- the bytes of the chars cs, low before high -/
def wideBytes : List Int32 → List Value
  | [] => []
  | c :: cs => .int (lo8 c) :: .int (hi8 c) :: wideBytes cs
theorem wide_lo (d : Value) : ∀ (cs : List Int32) (j : Nat), j < cs.length → (wideBytes cs).getD (2 * j) d = .int (lo8 (cs.getD j 0))
  | [], j, h => absurd h (Nat.not_lt_zero j)
  | c :: cs, 0, _ => rfl
  | c :: cs, j + 1, h => by
    have q := wide_lo d cs j (by simpa using h)
    rw [show 2 * (j + 1) = 2 * j + 1 + 1 from by omega]
    simpa [wideBytes] using q
theorem wide_hi (d : Value) : ∀ (cs : List Int32) (j : Nat), j < cs.length → (wideBytes cs).getD (2 * j + 1) d = .int (hi8 (cs.getD j 0))
  | [], j, h => absurd h (Nat.not_lt_zero j)
  | c :: cs, 0, _ => rfl
  | c :: cs, j + 1, h => by
    have q := wide_hi d cs j (by simpa using h)
    rw [show 2 * (j + 1) + 1 = 2 * j + 1 + 1 + 1 from by omega]
    simpa [wideBytes] using q
theorem low_at (d : Value) (cs : List Int32) (j : Nat) (h : j < cs.length) : (cs.map fun c => Value.int (lo8 c)).getD j d = .int (lo8 (cs.getD j 0)) := by
  simp [List.getD_eq_getElem?_getD, h]
/-- an array of N2 bytes vs codes the chars cs by the coder cd -/
def CodA (cs : List Int32) (cd N2 : Int32) (vs : List Value) : Prop := (cd = 0 ∧ N2 = Int32.ofNat cs.length ∧ vs = (cs.map fun c => Value.int (lo8 c)) ∧ ∀ c ∈ cs, ¬ 255 < c) ∨ (cd = 1 ∧ N2 = Int32.ofNat (2 * cs.length) ∧ vs = wideBytes cs ∧ ∃ c ∈ cs, 255 < c)
theorem CodA.cod {cs : List Int32} {cd N2 : Int32} {vs : List Value} {V : Cell} (h : CodA cs cd N2 vs) (hn : 2 * cs.length < 2 ^ 31) (hs : V.slots.size = N2.toNatClampNeg) (hv : RoadKit.Has V vs (.int 0)) : Cod cd cs.length (fun j => cs.getD j 0) V := by
  rcases h with ⟨rfl, rfl, rfl, h⟩ | ⟨rfl, rfl, rfl, c, hc, hw⟩
  · rw [n32 (by omega)] at hs
    exact Or.inl ⟨rfl, hs, fun j hj => ⟨by rw [hv j (by omega), low_at _ _ _ hj], by
      have e : cs.getD j 0 = cs[j] := by simp [List.getD_eq_getElem?_getD, hj]
      show ¬ 255 < cs.getD j 0
      rw [e]; exact h _ (List.getElem_mem _)⟩⟩
  · rw [n32 (by omega)] at hs
    obtain ⟨j, hj, rfl⟩ := List.getElem_of_mem hc
    exact Or.inr ⟨rfl, hs, fun j hj => ⟨by rw [hv _ (by omega), wide_lo _ _ _ hj], by rw [hv _ (by omega), wide_hi _ _ _ hj]⟩, j, hj, by
      have e : cs.getD j 0 = cs[j] := by simp [List.getD_eq_getElem?_getD, hj]
      show 255 < cs.getD j 0
      rw [e]; exact hw⟩
/-- an object of exactly java/lang/String, its two fields found: as the laws ask it -/
theorem strObj {Z U : State} {a0 : Array Value} {kI : Nat} (wi : (Jvm.Cond.instantiable ST kI).before a0 Z = true) (al : Z.vm.Alike U.vm) {x : Addr} {v0 c0 : Value} (E : RoadKit.Exa Z U.heap x ST) (V : RoadKit.Fld Z U.heap x ST "value" "[B" v0) (C : RoadKit.Fld Z U.heap x ST "coder" "B" c0) :
    ∃ (D : Cell) (fV fC : Field), Blank ST x D U ∧ Found ST "value" "[B" fV U ∧ Found ST "coder" "B" fC U ∧ D.slots[fV.slot]? = some v0 ∧ D.slots[fC.slot]? = some c0 ∧ RoadKit.slotOf Z ST "value" "[B" = fV.slot ∧ RoadKit.slotOf Z ST "coder" "B" = fC.slot := by
  obtain ⟨D, cfV, kV, iV, fV, hD, gV, stV, knV, obV, asV, slV⟩ := V
  obtain ⟨D', cfC, kC, iC, fC, hD', gC, stC, -, -, asC, slC⟩ := C
  cases hD.symm.trans hD'
  obtain ⟨D2, kD, e1, e2, e3, e4, e5⟩ := E
  cases hD.symm.trans e1
  obtain ⟨c2, k2, i1, i2, i3, -⟩ := Cond.instantiable_spec wi
  cases e2.symm.trans i1
  cases e3.symm.trans i2
  obtain ⟨kU, u1, u2⟩ := al.2.2 _ _ e3
  exact ⟨D, fV, fC, ⟨hD, ⟨knV, fun q hq => by rw [hq] at obV; cases obV⟩, by rw [al.findClass]; exact e2, kU, u1, by rw [u2]; exact i3, by rw [u2]; exact e5 i3⟩, ⟨SBG.found_only al ⟨cfV, kV, iV, gV⟩, stV⟩, ⟨SBG.found_only al ⟨cfC, kC, iC, gC⟩, stC⟩, slV, slC, by simp [RoadKit.slotOf, gV], by simp [RoadKit.slotOf, gC]⟩
theorem sta_is {Z U : State} (al : Z.vm.Alike U.vm) {C n d : String} {v : Value} (S : RoadKit.Sta Z U.heap C n d v) : StaticIs U C n d v := by
  obtain ⟨cfS, iS, kS, fS, st, cS, t1, t2, t3, t4, t5, t6, t7⟩ := S
  exact StaticIs.there (s := { Z with heap := U.heap }) ⟨cfS, iS, kS, fS, st, cS, t1, t2, t3, t4, t5, (fun q => by rw [q] at t6; cases t6), t7⟩ al rfl
/-- **length() OF SUCH A STRING** -/
theorem lenW {p : Program} {l : Launch} {e : Env} {R : Room} {s : State} {args : Array Value} {below : List Frame} {len W : Nat} {Z : State} {a0 : Array Value} {h : Heap} (hZ : Z.Warmed39 s.vm) (hw : ∀ d ∈ wordsLen, d.before a0 Z = true) {kI : Nat} (wi : (Jvm.Cond.instantiable ST kI).before a0 Z = true)
    {x t : Addr} {kb : ClassId} {cs : List Int32} {cd N2 z : Int32} {vs : List Value} (E : RoadKit.Exa Z h x ST) (V : RoadKit.Fld Z h x ST "value" "[B" (.ref t)) (C : RoadKit.Fld Z h x ST "coder" "B" (.int cd)) (K : RoadKit.Arv Z h t kb .byte N2 vs (.int 0)) (hc : CodA cs cd N2 vs) (hb : ∀ c ∈ cs, ¬ c < 0 ∧ ¬ (65535 : Int32) < c)
    (S : RoadKit.Sta Z h ST "COMPACT_STRINGS" "Z" (.int z)) (hz : ¬ z = 0) (l2 : cs.length ≤ 4000) (hfr : 2 ≤ R.frames) (hlo : W + 25 ≤ R.locals) :
    Back l R p e below s args (⟨"java/lang/String", "length", "()I"⟩ : MethodName) len W (fun P a => a = #[.ref x] ∧ P.U.heap = h ∧ P.cells + 0 ≤ R.cells ∧ P.slots + 0 ≤ R.slots)
      (fun P _ v B => ∃ L, (v = some (.int (Int32.ofNat cs.length)) ∧ L = [] ∧ B.U.heap = h) ∧ B.locs = P.locs ++ L ∧ B.cells = P.cells + 0 ∧ B.slots = P.slots + 0) := by
  obtain ⟨A, K1, K2, K3, K4, K5, K6⟩ := K
  have hcod := hc.cod (by omega) K3 K5
  intro m meth c P g ig mk a X hg hsize hdg hW hn hp'
  obtain ⟨rfl, rfl, r1, r2⟩ := hp'
  have al : Z.vm.Alike P.U.vm := hZ.alike.trans X.warmed.alike
  obtain ⟨D, fV, fC, hB, F1, F2, g1, g2, -, -⟩ := strObj wi al E V C
  have hx : Txt x t A cd cs.length (fun j => cs.getD j 0) P.U := ⟨⟨_, hB.2.2.1, D, hB.1, rfl, by cases q : D.vm <;> first | rfl | exact absurd q (hB.2.1.2 _)⟩, Has.of hB F1 g1, Has.of hB F2 g2, ⟨K1.1, State.isArrayOf_alike al K1.2.1, K1.2.2, by rcases hcod with ⟨-, q, -⟩ | ⟨-, q, -⟩ <;> omega⟩, hcod, fun j hj => by
    have e : cs.getD j 0 = cs[j] := by simp [List.getD_eq_getElem?_getD, hj]
    show ¬ cs.getD j 0 < 0 ∧ ¬ 65535 < cs.getD j 0
    rw [e]; exact hb _ (List.getElem_mem _)⟩
  obtain ⟨v, B, X', ⟨⟨hv, hh⟩, hl, hk, hs⟩, st⟩ := Len.pays x t A cd cs.length (fun j => cs.getD j 0) z (tabLen_of (movedLen hZ hw)) hfr hlo m meth c P g ig mk _ X hg hsize hdg hW hn ⟨r1, r2, rfl, hx, sta_is al S, hz⟩
  exact ⟨v, B, X', ⟨[], ⟨hv, rfl, hh⟩, hl, hk, hs⟩, st⟩
end StrChars.Road
namespace StrChars.Road
open Jvm Sem ClassFile Op Lib Jvm.Stand Jvm.Free Jvm.Free.XT
open Jvm.Lib.Cold (StaticIs)
/-- what backV says of its String, as the contracts of this text ask it: cs's low bytes, coder 0 -/
theorem codOf {cs : List Int32} {n : Nat} (hn : cs.length = n) (hb : ∀ c ∈ cs, ¬ 255 < c) : CodA cs 0 (Int32.ofNat n) ((cs.map lo8).map Value.int) := Or.inl ⟨rfl, by rw [hn], by simp [List.map_map, Function.comp_def], hb⟩
end StrChars.Road
end Jvm.Pilot.@@N@@
-- part pre
namespace Jvm.Pilot.@@N@@
open Jvm Jvm.ClassFile Sem Op Lib Jvm.Free Jvm.Stand Jvm.LawKit Jvm.RoadKit Bundle Jvm.Pilot.@@N@@.Jvm.D
section Pre
variable {Z : State} {a0 : Array Value} {EL : List (String × Nat)} {sv : Bool} {p : Program} {l : Launch} {e : Env} {R : Room} {s : State} {m : MethodId} {args : Array Value} {below : List Frame} {meth : Method} {c : Code} {own : String} {bytes : ByteArray} {maxL : Nat} {rt : Option FieldType} {nm : String} {h0 : Heap} {ws sf : List Addr} {T : State} {h : Heap} {locs : List Loc} {cells slots : Nat} {Q : Option Value → Heap → Prop} {kc ks : Nat}
theorem neA {x y : Addr} (h : @LT.lt Nat _ x y ∨ @LT.lt Nat _ y x) : x ≠ y := fun e => by subst e; rcases h with h | h <;> exact Nat.lt_irrefl _ h
/-- the i-th word of the tables -/
theorem wd (hw : ∀ d ∈ tables_1, d.before a0 Z = true) (i : Nat) {d : Jvm.Cond} (hd : tables_1[i]? = some d) : d.before a0 Z = true := hw d (List.mem_of_getElem? hd)
/-- the run from T with the frame g on top ends well: it returns, and Q says what -/
def Run (Z : State) (EL : List (String × Nat)) (sv : Bool) (p : Program) (e : Env) (below : List Frame) (s : State) (h0 : Heap) (ws : List Addr) (Q : Option Value → Heap → Prop) (kc ks : Nat) (T : State) (g : JFrame) : Prop :=
  ∃ s₂ o, Steps p.tables e below (T.setTop g) s₂ ∧ s₂.status = .running ∧ Ended s₂ below o ∧ ∃ v L, o = .returned v ∧ (Fr Z.heap.size L ∧ Keep h0 s₂.heap ws ∧ Q v s₂.heap) ∧ CHr Z EL s.vm h0 s₂.vm s₂.heap ∧ ReturnedEndW s o s₂ L kc ks ∧ (NW = true → s.WarmedH s₂.vm) ∧ (sv = true → ∀ x, v = some (.ref x) → x < s₂.heap.size ∧ Safe Z EL s₂.vm s₂.heap x)
/-- what a walk bears at every place: besides the Stand (over the start with the tables at hand): what is plain; what is said of the tables -/
def Sit (Z : State) (a0 : Array Value) (EL : List (String × Nat)) (p : Program) (l : Launch) (e : Env) (R : Room) (s : State) (m : MethodId) (args : Array Value) (below : List Frame) (meth : Method) (c : Code) (own : String) (bytes : ByteArray) (maxL : Nat) (rt : Option FieldType) (nm : String) (h0 : Heap) (ws : List Addr) (sf : List Addr) (T : State) (h : Heap) (locs : List Loc) (cells slots : Nat) : Prop :=
  (T.heap = h ∧ p.tables.exec = Jvm.exec ∧ c.code = bytes ∧ c.maxLocals = maxL ∧ meth.sig.returnType = rt ∧ meth.locks = false ∧ meth.name = nm ∧ Fr Z.heap.size locs ∧ Keep h0 h ws ∧ Ext Z.heap h ∧ EW Z a0 EL) ∧
  ∃ vm0 k0, Stand p l e R (s.setVm vm0) m args below meth c T locs cells slots ∧ Z.Warmed39 vm0 ∧ vm0.findClass own = some m.cls ∧ s.Since vm0 k0 ∧ k0 ≤ h.size ∧ CHr Z EL s.vm h0 vm0 h ∧ (∀ x ∈ sf, x < h.size ∧ Safe Z EL vm0 h x) ∧ (NW = true → s.WarmedH vm0)
theorem Sit.eh (X : Sit Z a0 EL p l e R s m args below meth c own bytes maxL rt nm h0 ws sf T h locs cells slots) : T.heap = h := X.1.1
theorem Sit.ex (X : Sit Z a0 EL p l e R s m args below meth c own bytes maxL rt nm h0 ws sf T h locs cells slots) : p.tables.exec = Jvm.exec := X.1.2.1
theorem Sit.byt (X : Sit Z a0 EL p l e R s m args below meth c own bytes maxL rt nm h0 ws sf T h locs cells slots) : c.code = bytes := X.1.2.2.1
theorem Sit.ml (X : Sit Z a0 EL p l e R s m args below meth c own bytes maxL rt nm h0 ws sf T h locs cells slots) : c.maxLocals = maxL := X.1.2.2.2.1
theorem Sit.rtt (X : Sit Z a0 EL p l e R s m args below meth c own bytes maxL rt nm h0 ws sf T h locs cells slots) : meth.sig.returnType = rt := X.1.2.2.2.2.1
theorem Sit.lk (X : Sit Z a0 EL p l e R s m args below meth c own bytes maxL rt nm h0 ws sf T h locs cells slots) : meth.locks = false := X.1.2.2.2.2.2.1
theorem Sit.nmm (X : Sit Z a0 EL p l e R s m args below meth c own bytes maxL rt nm h0 ws sf T h locs cells slots) : meth.name = nm := X.1.2.2.2.2.2.2.1
theorem Sit.fr (X : Sit Z a0 EL p l e R s m args below meth c own bytes maxL rt nm h0 ws sf T h locs cells slots) : Fr Z.heap.size locs := X.1.2.2.2.2.2.2.2.1
theorem Sit.kp (X : Sit Z a0 EL p l e R s m args below meth c own bytes maxL rt nm h0 ws sf T h locs cells slots) : Keep h0 h ws := X.1.2.2.2.2.2.2.2.2.1
theorem Sit.old (X : Sit Z a0 EL p l e R s m args below meth c own bytes maxL rt nm h0 ws sf T h locs cells slots) : Ext Z.heap h := X.1.2.2.2.2.2.2.2.2.2.1
theorem Sit.ew (X : Sit Z a0 EL p l e R s m args below meth c own bytes maxL rt nm h0 ws sf T h locs cells slots) : EW Z a0 EL := X.1.2.2.2.2.2.2.2.2.2.2
theorem Sit.at (X : Sit Z a0 EL p l e R s m args below meth c own bytes maxL rt nm h0 ws sf T h locs cells slots) : At T m c below := by obtain ⟨-, vm0, k0, X, -⟩ := X; exact X.here
theorem Sit.de (X : Sit Z a0 EL p l e R s m args below meth c own bytes maxL rt nm h0 ws sf T h locs cells slots) {pc : Nat} {r : Except ClassFile.DecodeError (ClassFile.Instr × Nat)} (h2 : ClassFile.decode bytes pc = r) : ClassFile.decode c.code pc = r := X.byt ▸ h2
theorem extKp {h' : Heap} {wz : List Addr} (O : Ext Z.heap h) (K : Keep h h' wz) (q : ∀ x ∈ wz, Z.heap.size ≤ x) : Ext Z.heap h' := ⟨Nat.le_trans O.1 K.1, fun a cl r => K.2.1 _ _ (O.2 _ _ r) fun z => absurd (Array.getElem?_eq_some_iff.mp r).1 (Nat.not_lt.mpr (q _ z))⟩
theorem extK {h h' : Heap} (E : Ext h h') : Keep h h' [] := (Keep.refl h []).ext E
theorem Sit.mono (X : Sit Z a0 EL p l e R s m args below meth c own bytes maxL rt nm h0 ws sf T h locs cells slots) {k n : Nat} (hk : cells ≤ k) (hn : slots ≤ n) : Sit Z a0 EL p l e R s m args below meth c own bytes maxL rt nm h0 ws sf T h locs k n := by
  obtain ⟨F, vm0, k0, Y, r⟩ := X; exact ⟨F, vm0, k0, Y.mono hk hn, r⟩
theorem Sit.less {sf' : List Addr} (X : Sit Z a0 EL p l e R s m args below meth c own bytes maxL rt nm h0 ws sf T h locs cells slots) (q : ∀ x ∈ sf', x ∈ sf) : Sit Z a0 EL p l e R s m args below meth c own bytes maxL rt nm h0 ws sf' T h locs cells slots := by
  obtain ⟨F, vm0, k0, Y, r1, r2, r3, r4, r5, r6, r7⟩ := X; exact ⟨F, vm0, k0, Y, r1, r2, r3, r4, r5, fun x hx => r6 x (q x hx), r7⟩
theorem Run.via {T' : State} {g g' : JFrame} (q : ∀ t, Steps p.tables e below (T'.setTop g') t → Steps p.tables e below (T.setTop g) t) (r : Run Z EL sv p e below s h0 ws Q kc ks T' g') : Run Z EL sv p e below s h0 ws Q kc ks T g := by
  obtain ⟨s₂, o, r1, r2⟩ := r
  exact ⟨s₂, o, q _ r1, r2⟩
theorem Run.on {T' : State} {g g' : JFrame} (q : Steps p.tables e below (T.setTop g) (T'.setTop g')) (r : Run Z EL sv p e below s h0 ws Q kc ks T' g') : Run Z EL sv p e below s h0 ws Q kc ks T g := Run.via (fun _ k => q.trans k) r
/-- the end -/
theorem Run.out (X : Sit Z a0 EL p l e R s m args below meth c own bytes maxL rt nm h0 ws sf T h locs cells slots) {v : Option Value} {g : JFrame} (hv : rt = none → v = none) (hc : cells ≤ kc) (hs : slots ≤ ks) (hq : Q v h) (hsv : sv = true → ∀ x, v = some (.ref x) → x ∈ sf)
    (q : ∀ vm0 fs, Stand p l e R (s.setVm vm0) m args below meth c T locs cells slots → (∀ (f : JFrame) (acts : List Action), f.method = m → f.locked = none → f.entered = [] → (doReturn e (T.setTop f) acts v).1 = T.setFrames fs) → Steps p.tables e below (T.setTop g) (T.setFrames fs)) : Run Z EL sv p e below s h0 ws Q kc ks T g := by
  obtain ⟨F, vm0, k0, Y, r1, r2, r3, r4, r5, r6, r7⟩ := id X
  obtain ⟨fs, hr, hrun, hended, hW⟩ := Y.leaveW r3 (by rw [X.eh]; exact r4) (v := v) (fun z => hv (X.rtt.symm.trans z)) X.lk
  have eh : (T.setFrames fs).heap = h := X.eh
  have ev : (T.setFrames fs).vm = T.vm := rfl
  refine ⟨_, _, q vm0 fs Y hr, hrun, hended, v, locs, rfl, ⟨X.fr, by rw [eh]; exact X.kp, by rw [eh]; exact hq⟩, ?_, ⟨hW.1, hW.2.1, hW.2.2.1, hW.2.2.2.mono hc hs⟩, fun z => ?_, fun z x hx => ?_⟩
  · rw [eh, ev]; exact r5.trans (CHv.at Y r1 X.ew r5.1)
  · rw [ev]; exact State.WarmedH.trans (t := s.setVm vm0) (r7 z) Y.warmed
  · rw [eh, ev]; exact ⟨(r6 x (hsv z x hx)).1, (CHv.at Y r1 X.ew r5.1).safe (r6 x (hsv z x hx)).1 (r6 x (hsv z x hx)).2⟩
theorem Run.retN (X : Sit Z a0 EL p l e R s m args below meth c own bytes maxL rt nm h0 ws sf T h locs cells slots) {pc : Nat} {Ls : Array Slot} {z : Int32} {rest : List Value} {t : FieldType} (hr : rt = some t) (ht : t = .boolean ∨ t = .byte ∨ t = .char ∨ t = .short) (hd : decode bytes pc = .ok (.ireturn, 1)) (hc : cells ≤ kc) (hs : slots ≤ ks) (hq : Q (some (.int (nar t z))) h) :
    Run Z EL sv p e below s h0 ws Q kc ks T (mkF m pc Ls (.int z :: rest)) :=
  Run.out X (fun z => by rw [hr] at z; cases z) hc hs hq (fun _ _ z => by cases z) fun vm0 fs Y q => Jvm.RoadKit.retN Y X.ex (X.rtt.trans hr) ht (X.de hd) q
theorem Run.retI (X : Sit Z a0 EL p l e R s m args below meth c own bytes maxL rt nm h0 ws sf T h locs cells slots) {pc : Nat} {Ls : Array Slot} {z : Int32} {rest : List Value} (hr : rt = some .int) (hd : decode bytes pc = .ok (.ireturn, 1)) (hc : cells ≤ kc) (hs : slots ≤ ks) (hq : Q (some (.int z)) h) :
    Run Z EL sv p e below s h0 ws Q kc ks T (mkF m pc Ls (.int z :: rest)) :=
  Run.out X (fun z => by rw [hr] at z; cases z) hc hs hq (fun _ _ z => by cases z) fun vm0 fs Y q => retOut Y X.ex (X.rtt.trans hr) rfl (Or.inl ⟨rfl, Or.inl rfl, z, rfl⟩) (X.de hd) q
theorem Run.retA (X : Sit Z a0 EL p l e R s m args below meth c own bytes maxL rt nm h0 ws sf T h locs cells slots) {pc : Nat} {Ls : Array Slot} {v : Value} {rest : List Value} {t : FieldType} (hr : rt = some t) (ht : t.isReference = true) (hv : v.isRef = true) (hd : decode bytes pc = .ok (.areturn, 1)) (hc : cells ≤ kc) (hs : slots ≤ ks) (hq : Q (some v) h) (hsv : sv = true → ∀ x, v = .ref x → x ∈ sf) :
    Run Z EL sv p e below s h0 ws Q kc ks T (mkF m pc Ls (v :: rest)) :=
  Run.out X (fun z => by rw [hr] at z; cases z) hc hs hq (fun z x hx => hsv z x (Option.some.inj hx)) fun vm0 fs Y q => retOut Y X.ex (X.rtt.trans hr) (by rcases ref_cases hv with rfl | ⟨_, rfl⟩ <;> cases t <;> rfl) (Or.inr (Or.inr (Or.inr (Or.inr ⟨rfl, ht, hv⟩)))) (X.de hd) q
theorem Run.retV (X : Sit Z a0 EL p l e R s m args below meth c own bytes maxL rt nm h0 ws sf T h locs cells slots) {pc : Nat} {Ls : Array Slot} (hr : rt = none) (hd : decode bytes pc = .ok (.return_, 1)) (hc : cells ≤ kc) (hs : slots ≤ ks) (hq : Q none h) :
    Run Z EL sv p e below s h0 ws Q kc ks T (mkF m pc Ls []) :=
  Run.out X (fun _ => rfl) hc hs hq (fun _ _ z => by cases z) fun vm0 fs Y q => Y.returnOut X.ex (X.rtt.trans hr) (X.de hd) q
/-- a body's contract; sf: objects handed in that are no booked literal's -/
def Con (l : Launch) (Z : State) (a0 : Array Value) (EL : List (String × Nat)) (sv : Bool) (y : MethodName) (bytes : ByteArray) (maxL : Nat) (rt : Option FieldType) (rm : Room) (ws sf : List Addr) (as' : Array Value) (h0 : Heap) (Q : Option Value → Heap → Prop) : Prop :=
  EW Z a0 EL → ∀ wds, MetFree l y (head1 (Jvm.Cond.code y bytes maxL rt :: wds) rm) (fun a U => a = as' ∧ Z.Warmed39 U.vm ∧ U.heap = h0 ∧ CHv Z EL U.vm h0 ∧ ∀ x ∈ sf, x < h0.size ∧ Safe Z EL U.vm h0 x) (fun _ _ _ _ _ => True) (fun _ U o U' => ∃ v L, o = .returned v ∧ (Fr Z.heap.size L ∧ Keep h0 U'.heap ws ∧ Q v U'.heap) ∧ CHr Z EL U.vm h0 U'.vm U'.heap ∧ ReturnedEndW U o U' L rm.cells rm.slots ∧ (NW = true → U.WarmedH U'.vm) ∧ (sv = true → ∀ x, v = some (.ref x) → x < U'.heap.size ∧ Safe Z EL U'.vm U'.heap x))
theorem Con.enter {y : MethodName} {rm : Room} {as' : Array Value} (hn : plainFor y = true) (hE : Ext Z.heap h0)
    (body : ∀ p e s m below meth c T, Sit Z a0 EL p l e rm s m as' below meth c y.cls bytes maxL rt y.name h0 ws sf T h0 [] 0 0 → Run Z EL sv p e below s h0 ws Q rm.cells rm.slots T (entryFrame m as' maxL)) : Con l Z a0 EL sv y bytes maxL rt rm ws sf as' h0 Q := by
  intro hEW wds
  refine MetFree.of_bodySF hn hisR ?_
  intro p e s m args below meth c s₁ Bd hml0 hP hK
  obtain ⟨rfl, hZ, hh, hH, hsf⟩ := hP
  have X0 : Stand p l e rm s m args below meth c s₁ [] 0 0 := Stand.of_body Bd
  have e0 : s₁.heap = h0 := by rw [← hh, Bd.state]; rfl
  exact body p e s m below meth c s₁ ⟨⟨e0, Bd.exec, Bd.bytes, hml0, Bd.returns, Bd.notSynchronized, (name_of_methodNamed Bd.named Bd.method).1, Fr.nil _, Keep.refl _ _, hE, hEW⟩, s.vm, h0.size, X0, hZ, findClass_of_methodNamed Bd.named, (State.WarmedH.refl s).since _, Nat.le_refl _, CHr.refl hH, hsf, fun _ => State.WarmedH.refl s⟩
/-! steps: the same base -/
/-- the walk goes on: other state, same heap -/
theorem Sit.same (X : Sit Z a0 EL p l e R s m args below meth c own bytes maxL rt nm h0 ws sf T h locs cells slots) {Q' : State → Prop} (q : ∀ vm0, Stand p l e R (s.setVm vm0) m args below meth c T locs cells slots → Z.Warmed39 (s.setVm vm0).vm → (s.setVm vm0).vm.findClass own = some m.cls → ∃ T', Stand p l e R (s.setVm vm0) m args below meth c T' locs cells slots ∧ T'.heap = h ∧ Q' T') : ∃ T', Sit Z a0 EL p l e R s m args below meth c own bytes maxL rt nm h0 ws sf T' h locs cells slots ∧ Q' T' := by
  obtain ⟨F, vm0, k0, Y, r1, r2, r⟩ := id X
  obtain ⟨T', Y', e', q'⟩ := q vm0 Y r1 r2
  exact ⟨T', ⟨⟨e', X.ex, X.byt, X.ml, X.rtt, X.lk, X.nmm, X.fr, X.kp, X.old, X.ew⟩, vm0, k0, Y', r1, r2, r⟩, q'⟩
/-- .. the heap has grown by an object x; it is nobody's literal -/
theorem Sit.grow (X : Sit Z a0 EL p l e R s m args below meth c own bytes maxL rt nm h0 ws sf T h locs cells slots) {k n : Nat} {Q' : State → Heap → Prop} (q : ∀ vm0, Stand p l e R (s.setVm vm0) m args below meth c T locs cells slots → Z.Warmed39 (s.setVm vm0).vm → (s.setVm vm0).vm.findClass own = some m.cls → ∃ T' h', Stand p l e R (s.setVm vm0) m args below meth c T' locs k n ∧ T'.heap = h' ∧ Ext h h' ∧ h.size < h'.size ∧ Q' T' h') : ∃ T' h', Sit Z a0 EL p l e R s m args below meth c own bytes maxL rt nm h0 ws (h.size :: sf) T' h' locs k n ∧ Ext h h' ∧ Q' T' h' := by
  obtain ⟨F, vm0, k0, Y, r1, r2, r3, r4, r5, r6, r7⟩ := id X
  obtain ⟨T', h', Y', e', E, lt, q'⟩ := q vm0 Y r1 r2
  refine ⟨T', h', ⟨⟨e', X.ex, X.byt, X.ml, X.rtt, X.lk, X.nmm, X.fr, X.kp.ext E, extKp X.old (extK E) (fun _ z => nomatch z), X.ew⟩, vm0, k0, Y', r1, r2, r3, Nat.le_trans r4 E.1, r5.trans (CHr.ext E r5.1), fun x hx => ?_, r7⟩, E, q'⟩
  rcases List.mem_cons.mp hx with rfl | hx
  · exact ⟨lt, (Safe.new (Nat.le_refl _)).ext E r5.1⟩
  · exact ⟨Nat.lt_of_lt_of_le (r6 x hx).1 E.1, (r6 x hx).2.ext E r5.1⟩
/-- .. only the places wz were written, none of a literal's -/
theorem Sit.go (X : Sit Z a0 EL p l e R s m args below meth c own bytes maxL rt nm h0 ws sf T h locs cells slots) {k n : Nat} {wz : List Addr} {Q' : State → Heap → List Loc → Prop} (r : ∀ x ∈ wz, (x ∈ ws ∨ h0.size ≤ x) ∧ Z.heap.size ≤ x) (sfe : ∀ vm0, Z.vm.Alike vm0 → (∀ x ∈ sf, Safe Z EL vm0 h x) → ∀ x ∈ wz, Safe Z EL vm0 h x)
    (q : ∀ vm0, Stand p l e R (s.setVm vm0) m args below meth c T locs cells slots → Z.Warmed39 (s.setVm vm0).vm → (s.setVm vm0).vm.findClass own = some m.cls → ∃ T' h' L, Stand p l e R (s.setVm vm0) m args below meth c T' (locs ++ L) k n ∧ T'.heap = h' ∧ Keep h h' wz ∧ Fr Z.heap.size L ∧ Q' T' h' L) : ∃ T' h' L, Sit Z a0 EL p l e R s m args below meth c own bytes maxL rt nm h0 ws sf T' h' (locs ++ L) k n ∧ Keep h h' wz ∧ Q' T' h' L := by
  obtain ⟨F, vm0, k0, Y, r1, r2, r3, r4, r5, r6, r7⟩ := id X
  obtain ⟨T', h', L, Y', e', K, N, q'⟩ := q vm0 Y r1 r2
  have sw := sfe vm0 r1.alike fun x hx => (r6 x hx).2
  exact ⟨T', h', L, ⟨⟨e', X.ex, X.byt, X.ml, X.rtt, X.lk, X.nmm, Fr.app X.fr N, X.kp.trans K fun x hx => (r x hx).1, extKp X.old K fun x hx => (r x hx).2, X.ew⟩, vm0, k0, Y', r1, r2, r3, Nat.le_trans r4 K.1, r5.trans (CHr.keep K sw r5.1), fun x hx => ⟨Nat.lt_of_lt_of_le (r6 x hx).1 K.1, (r6 x hx).2.keep K sw r5.1⟩, r7⟩, K, q'⟩
/-- the reference that comes back, where the contract says that it is nobody's literal -/
def rvs (su : Bool) (v : Option Value) : List Addr := match su, v with
  | true, some (.ref x) => [x]
  | _, _ => []
theorem rvs_safe {su : Bool} {v : Option Value} {P : Addr → Prop} (q : su = true → ∀ x, v = some (.ref x) → P x) : ∀ x ∈ rvs su v, P x := fun x hx => by
  unfold rvs at hx
  split at hx
  · cases List.mem_singleton.mp hx; exact q rfl x rfl
  · cases hx
/-- .. a step that may have interned: another base -/
theorem Sit.reb (X : Sit Z a0 EL p l e R s m args below meth c own bytes maxL rt nm h0 ws sf T h locs cells slots) {k n : Nat} {wz : List Addr} {Q' : State → Heap → List Loc → List Addr → Prop} (r : ∀ x ∈ wz, (x ∈ ws ∨ h0.size ≤ x) ∧ Z.heap.size ≤ x)
    (q : ∀ vm0 k0, Stand p l e R (s.setVm vm0) m args below meth c T locs cells slots → Z.Warmed39 (s.setVm vm0).vm → (s.setVm vm0).vm.findClass own = some m.cls → s.Since vm0 k0 → k0 ≤ h.size → CHv Z EL vm0 h → (∀ x ∈ sf, x < h.size ∧ Safe Z EL vm0 h x) → ∃ T' h' L vm1 k1 sx, Stand p l e R (s.setVm vm1) m args below meth c T' (locs ++ L) k n ∧ T'.heap = h' ∧ Keep h h' wz ∧ Fr Z.heap.size L ∧ Z.Warmed39 vm1 ∧ vm1.findClass own = some m.cls ∧ s.Since vm1 k1 ∧ k1 ≤ h'.size ∧ CHr Z EL vm0 h vm1 h' ∧ (NW = true → (s.setVm vm0).WarmedH vm1) ∧ (∀ x ∈ sx, x < h'.size ∧ Safe Z EL vm1 h' x) ∧ Q' T' h' L sx) : ∃ T' h' L sx, Sit Z a0 EL p l e R s m args below meth c own bytes maxL rt nm h0 ws (sx ++ sf) T' h' (locs ++ L) k n ∧ Keep h h' wz ∧ Q' T' h' L sx := by
  obtain ⟨F, vm0, k0, Y, r1, r2, r3, r4, r5, r6, r7⟩ := id X
  obtain ⟨T', h', L, vm1, k1, sx, Y', e', K, N, W1, W2, S1, hk1, C1, n1, f1, q'⟩ := q vm0 k0 Y r1 r2 r3 r4 r5.1 r6
  refine ⟨T', h', L, sx, ⟨⟨e', X.ex, X.byt, X.ml, X.rtt, X.lk, X.nmm, Fr.app X.fr N, X.kp.trans K fun x hx => (r x hx).1, extKp X.old K fun x hx => (r x hx).2, X.ew⟩, vm1, k1, Y', W1, W2, S1, hk1, r5.trans C1, fun x hx => ?_, fun z => State.WarmedH.trans (t := s.setVm vm0) (r7 z) (n1 z)⟩, K, q'⟩
  rcases List.mem_append.mp hx with hx | hx
  · exact f1 x hx
  · exact ⟨Nat.lt_of_lt_of_le (r6 x hx).1 K.1, C1.safe (r6 x hx).1 (r6 x hx).2⟩
theorem Run.new (X : Sit Z a0 EL p l e R s m args below meth c own bytes maxL rt nm h0 ws sf T h locs cells slots) {C : String} {index n pc : Nat} {Ls : Array Slot} {st : List Value} (w : (Cond.classLink own index C).before a0 Z = true) (wi : (Cond.instantiable C n).before a0 Z = true) (wz : (Cond.initialized C).before a0 Z = true) (hd : decode bytes pc = .ok (.new index, 3)) (hc : cells + 1 ≤ R.cells) (hl : slots + n ≤ R.slots)
    (k : ∀ (T' : State) (h' : Heap) (x : Addr), @Eq Nat x h.size → Sit Z a0 EL p l e R s m args below meth c own bytes maxL rt nm h0 ws (x :: sf) T' h' locs (cells + 1) (slots + n) → Keep h h' [] → @LT.lt Nat _ x h'.size → Exa Z h' x C → (∀ {O f d : String} {ty : FieldType}, Laid Z a0 C O f d → parseFieldDescriptor d = some ty → Fld Z h' x O f d (defaultValue ty)) → Run Z EL sv p e below s h0 ws Q kc ks T' (mkF m (pc + 3) Ls (.ref x :: st))) :
    Run Z EL sv p e below s h0 ws Q kc ks T (mkF m pc Ls st) := by
  obtain ⟨T', h', X', E, A, D, q⟩ := X.grow (k := cells + 1) (n := slots + n) (Q' := fun T' h' => Exa Z h' h.size C ∧ (∀ {O f d : String} {ty : FieldType}, Laid Z a0 C O f d → parseFieldDescriptor d = some ty → Fld Z h' h.size O f d (defaultValue ty)) ∧ ∀ t, Steps p.tables e below (T'.setTop (mkF m (pc + 3) Ls (.ref h.size :: st))) t → Steps p.tables e below (T.setTop (mkF m pc Ls st)) t) fun vm0 Y hZ ho => by
    obtain ⟨T', h', Y', e', E, A, D, -, q⟩ := newO Y X.ex hZ ho w wi wz X.eh (g := mkF m pc Ls st) rfl (X.de hd) hc hl
    exact ⟨T', h', Y', e', E, A.lt, A, D, q⟩
  exact Run.via q (k T' h' _ rfl X' (extK E) A.lt A D)
theorem Run.getf (X : Sit Z a0 EL p l e R s m args below meth c own bytes maxL rt nm h0 ws sf T h locs cells slots) {R0 O f d : String} {index pc : Nat} {Ls : Array Slot} {st : List Value} {a : Addr} {v : Value} (w : (Cond.fieldLink own index R0 f d).before a0 Z = true) (via : Via Z R0 O f d) (F : Fld Z h a O f d v) (hd : decode bytes pc = .ok (.getfield index, 3))
    (k : ∀ (T' : State), Sit Z a0 EL p l e R s m args below meth c own bytes maxL rt nm h0 ws sf T' h locs cells slots → Run Z EL sv p e below s h0 ws Q kc ks T' (mkF m (pc + 3) Ls (v :: st))) : Run Z EL sv p e below s h0 ws Q kc ks T (mkF m pc Ls (.ref a :: st)) := by
  obtain ⟨T', X', q⟩ := X.same fun vm0 Y hZ ho => getF Y X.ex hZ ho (host := "") (Or.inl w) via X.eh F (g := mkF m pc Ls (.ref a :: st)) rfl rfl (X.de hd)
  exact Run.via q (k T' X')
theorem Run.gets (X : Sit Z a0 EL p l e R s m args below meth c own bytes maxL rt nm h0 ws sf T h locs cells slots) {R0 O f d : String} {index pc : Nat} {Ls : Array Slot} {st : List Value} {v : Value} (w : (Cond.fieldLink own index R0 f d).before a0 Z = true) (via : Via Z R0 O f d) (F : Sta Z Z.heap O f d v) (hd : decode bytes pc = .ok (.getstatic index, 3))
    (k : ∀ (T' : State), Sit Z a0 EL p l e R s m args below meth c own bytes maxL rt nm h0 ws sf T' h locs cells slots → Run Z EL sv p e below s h0 ws Q kc ks T' (mkF m (pc + 3) Ls (v :: st))) : Run Z EL sv p e below s h0 ws Q kc ks T (mkF m pc Ls st) := by
  obtain ⟨T', X', q⟩ := X.same fun vm0 Y hZ ho => getS Y X.ex hZ (host := "") ho w via X.eh (F.ext X.old) (g := mkF m pc Ls st) rfl (X.de hd)
  exact Run.via q (k T' X')
theorem Run.putf (X : Sit Z a0 EL p l e R s m args below meth c own bytes maxL rt nm h0 ws sf T h locs cells slots) {R0 O f d C : String} {index pc kk : Nat} {Ls : Array Slot} {st : List Value} {a : Addr} {v v' old : Value} {ty : FieldType} (w : (Cond.fieldLink own index R0 f d).before a0 Z = true) (via : Via Z R0 O f d) (F : Fld Z h a O f d old) (E : Exa Z h a C) (L : (Cond.lays C O f d).before a0 Z = true ∨ ((Cond.laysFinal C O f d).before a0 Z = true ∧ own = O ∧ nm = "<init>")) (wi : (Cond.instantiable C kk).before a0 Z = true)
    (hty : parseFieldDescriptor d = some ty) (hn : narrow ty v = v') (hf : fits ty v' = true) (ha : a ∈ ws ∨ h0.size ≤ a) (hz : Z.heap.size ≤ a) (hsf : (C ≠ "java/lang/String" ∧ C ≠ "[B") ∨ a ∈ sf) (hd : decode bytes pc = .ok (.putfield index, 3))
    (k : ∀ (T' : State) (h' : Heap) (L : List Loc), Sit Z a0 EL p l e R s m args below meth c own bytes maxL rt nm h0 ws sf T' h' (locs ++ L) cells slots → Keep h h' [a] → Wr h h' a (RoadKit.slotOf Z O f d) v' → Fld Z h' a O f d v' → Exa Z h' a C → Run Z EL sv p e below s h0 ws Q kc ks T' (mkF m (pc + 3) Ls st)) : Run Z EL sv p e below s h0 ws Q kc ks T (mkF m pc Ls (v :: .ref a :: st)) := by
  obtain ⟨T', h', L', X', K, W, q⟩ := X.go (k := cells) (n := slots) (wz := [a]) (Q' := fun T' h' _ => Wr h h' a (RoadKit.slotOf Z O f d) v' ∧ ∀ t, Steps p.tables e below (T'.setTop (mkF m (pc + 3) Ls st)) t → Steps p.tables e below (T.setTop (mkF m pc Ls (v :: .ref a :: st))) t) (fun x hx => by cases List.mem_singleton.mp hx; exact ⟨ha, hz⟩) (fun vm0 al hs x hx => by cases List.mem_singleton.mp hx; exact hsf.elim (fun z => Safe.exa al E z.1 z.2) (hs a)) fun vm0 Y hZ ho => by
    obtain ⟨T', h', Y', e', W, q⟩ := putFN Y X.ex hZ ho w via X.eh F E (L.imp id fun z => ⟨z.1, z.2.1, X.nmm.trans z.2.2⟩) wi hty hn hf (g := mkF m pc Ls (v :: .ref a :: st)) rfl rfl (X.de hd)
    exact ⟨T', h', _, Y', e', Keep.of_wr W, fun y hy => by cases List.mem_singleton.mp hy; exact hz, W, q⟩
  exact Run.via q (k T' h' L' X' K W (F.same W) (E.wr W))
theorem Run.initO (X : Sit Z a0 EL p l e R s m args below meth c own bytes maxL rt nm h0 ws sf T h locs cells slots) {idx pc : Nat} {Ls : Array Slot} {a : Addr} {st : List Value} (w1 : (Cond.methodLink own idx Lib.objectInit).before a0 Z = true) (w2 : (Cond.instanceMethod Lib.objectInit).before a0 Z = true) (w3 : (Cond.code Lib.objectInit ⟨#[0xb1]⟩ 1 none).before a0 Z = true)
    (hsz : Ls.size = maxL) (hd : decode bytes pc = .ok (.invokespecial idx, 3)) (hf : 1 ≤ R.frames) (hl : (st.map fun v => v.category).sum + 12 ≤ R.locals)
    (k : ∀ (T' : State), Sit Z a0 EL p l e R s m args below meth c own bytes maxL rt nm h0 ws sf T' h locs cells slots → Run Z EL sv p e below s h0 ws Q kc ks T' (mkF m (pc + 3) Ls st)) : Run Z EL sv p e below s h0 ws Q kc ks T (mkF m pc Ls (.ref a :: st)) := by
  obtain ⟨T', X', q⟩ := X.same fun vm0 Y hZ ho => Jvm.RoadKit.initO Y X.ex hZ ho w1 w2 w3 X.eh (g := mkF m pc Ls (.ref a :: st)) rfl (hsz.trans X.ml.symm) rfl (X.de hd) hf (W := (st.map fun v => v.category).sum) (by show 2 * 0 + _ ≤ _; omega) hl
  exact Run.via q (k T' X')
theorem Run.ldcI (X : Sit Z a0 EL p l e R s m args below meth c own bytes maxL rt nm h0 ws sf T h locs cells slots) {index pc : Nat} {v : Int32} {Ls : Array Slot} {st : List Value} (w : (Cond.constant own index v).before a0 Z = true) (hd : decode bytes pc = .ok (.ldc index, 2))
    (k : Run Z EL sv p e below s h0 ws Q kc ks T (mkF m (pc + 2) Ls (.int v :: st))) : Run Z EL sv p e below s h0 ws Q kc ks T (mkF m pc Ls st) := by
  obtain ⟨-, vm0, k0, Y, r1, r2, -⟩ := id X
  exact Run.via (Y.ldcInt X.ex r2 (mv (s := s.setVm vm0) r1 w) (g := mkF m pc Ls st) rfl (X.de hd)) k
theorem Run.ldcL (X : Sit Z a0 EL p l e R s m args below meth c own bytes maxL rt nm h0 ws sf T h locs cells slots) {index pc : Nat} {v : Int64} {Ls : Array Slot} {st : List Value} (w : (Cond.constantLong own index v).before a0 Z = true) (hd : decode bytes pc = .ok (.ldc2_w index, 3))
    (k : Run Z EL sv p e below s h0 ws Q kc ks T (mkF m (pc + 3) Ls (.long v :: st))) : Run Z EL sv p e below s h0 ws Q kc ks T (mkF m pc Ls st) := by
  obtain ⟨-, vm0, k0, Y, r1, r2, -⟩ := id X
  exact Run.via (Y.ldc2Long X.ex r2 (mv (s := s.setVm vm0) r1 w) (g := mkF m pc Ls st) rfl (X.de hd)) k
theorem Run.irem (X : Sit Z a0 EL p l e R s m args below meth c own bytes maxL rt nm h0 ws sf T h locs cells slots) {pc : Nat} {x y : Int32} {Ls : Array Slot} {st : List Value} (hd : decode bytes pc = .ok (.irem, 1)) (hy : y ≠ 0)
    (k : Run Z EL sv p e below s h0 ws Q kc ks T (mkF m (pc + 1) Ls (.int (x % y) :: st))) : Run Z EL sv p e below s h0 ws Q kc ks T (mkF m pc Ls (.int y :: .int x :: st)) := by
  obtain ⟨-, vm0, k0, Y, -⟩ := id X
  exact Run.via (fun t r => iremM Y X.ex (g := mkF m pc Ls (.int y :: .int x :: st)) rfl (X.de hd) rfl hy r) k
theorem Run.lswHit (X : Sit Z a0 EL p l e R s m args below meth c own bytes maxL rt nm h0 ws sf T h locs cells slots) {pc len : Nat} {k : Int32} {df : Int} {pairs : Array (Int × Int)} {Ls : Array Slot} {st : List Value} (hd : decode bytes pc = .ok (.lookupswitch df pairs, len)) (hso : (pairs.toList.zip (pairs.toList.drop 1)).all (fun (a, next) => a.1 < next.1) = true) {a off : Int} (hf : pairs.find? (·.1 == k.toInt) = some (a, off)) (ho : 0 ≤ (pc : Int) + off)
    (r : Run Z EL sv p e below s h0 ws Q kc ks T (mkF m ((pc : Int) + off).toNat Ls st)) : Run Z EL sv p e below s h0 ws Q kc ks T (mkF m pc Ls (.int k :: st)) := by
  obtain ⟨-, vm0, k0, Y, -⟩ := id X
  exact Run.via (fun t r => Y.lookupswitchHit X.ex (g := mkF m pc Ls (.int k :: st)) rfl rfl (X.de hd) hso hf ho t r) r
theorem Run.lswMiss (X : Sit Z a0 EL p l e R s m args below meth c own bytes maxL rt nm h0 ws sf T h locs cells slots) {pc len : Nat} {k : Int32} {df : Int} {pairs : Array (Int × Int)} {Ls : Array Slot} {st : List Value} (hd : decode bytes pc = .ok (.lookupswitch df pairs, len)) (hso : (pairs.toList.zip (pairs.toList.drop 1)).all (fun (a, next) => a.1 < next.1) = true) (hf : pairs.find? (·.1 == k.toInt) = none) (ho : 0 ≤ (pc : Int) + df)
    (r : Run Z EL sv p e below s h0 ws Q kc ks T (mkF m ((pc : Int) + df).toNat Ls st)) : Run Z EL sv p e below s h0 ws Q kc ks T (mkF m pc Ls (.int k :: st)) := by
  obtain ⟨-, vm0, k0, Y, -⟩ := id X
  exact Run.via (fun t r => Y.lookupswitchMiss X.ex (g := mkF m pc Ls (.int k :: st)) rfl rfl (X.de hd) hso hf ho t r) r
/-! arrays of chars or bytes -/
/-- the array b holds just these -/
def Arc (ty : FieldType) (Z : State) (h : Heap) (b : Addr) (cs : List Int32) : Prop := ∃ k, Arv Z h b k ty (Int32.ofNat cs.length) (cs.map Value.int) (.int 0) ∧ cs.length ≤ 4000
theorem n32' {n : Nat} (h : n ≤ 4000) : ¬ Int32.ofNat n < 0 ∧ (Int32.ofNat n).toNatClampNeg = n := by
  have e : (Int32.ofNat n).toInt = n := Int32.toInt_ofNat_small (by omega)
  refine ⟨fun q => ?_, ?_⟩
  · rw [Int32.lt_iff_toInt_lt, e] at q; have : (0 : Int32).toInt = 0 := rfl; omega
  · show (Int32.ofNat n).toInt.toNat = n
    rw [e]; simp
theorem Arc.keep {ty : FieldType} {h' : Heap} {wz : List Addr} {b : Addr} {cs : List Int32} (A : Arc ty Z h b cs) (K : Keep h h' wz) (q : b ∉ wz) : Arc ty Z h' b cs := by
  obtain ⟨k, A, r⟩ := A; exact ⟨k, A.keep K q, r⟩
theorem Arc.lt {ty : FieldType} {b : Addr} {cs : List Int32} (A : Arc ty Z h b cs) : @LT.lt Nat _ b h.size := by obtain ⟨k, A, r⟩ := A; exact A.lt
theorem getD_map (cs : List Int32) (i : Nat) : (cs.map Value.int).getD i (.int 0) = .int (cs.getD i 0) := by
  simp only [List.getD_eq_getElem?_getD, List.getElem?_map]; cases cs[i]? <;> rfl
theorem Run.newarr (X : Sit Z a0 EL p l e R s m args below meth c own bytes maxL rt nm h0 ws sf T h locs cells slots) {aty : ArrayType} {pc n cap : Nat} {j : Int32} {Ls : Array Slot} {st : List Value} (w : (Cond.arrayClass (newarray.typeOf aty)).before a0 Z = true) (hi : defaultValue (newarray.typeOf aty) = .int 0) (hd : decode bytes pc = .ok (.newarray aty, 2)) (hj : j = Int32.ofNat n) (hcap : n ≤ cap) (hn : cap ≤ 4000) (hc : cells + 1 ≤ R.cells) (hl : slots + cap ≤ R.slots)
    (k : ∀ (T' : State) (h' : Heap) (x : Addr), @Eq Nat x h.size → Sit Z a0 EL p l e R s m args below meth c own bytes maxL rt nm h0 ws (x :: sf) T' h' locs (cells + 1) (slots + cap) → Keep h h' [] → @LT.lt Nat _ x h'.size → Arc (newarray.typeOf aty) Z h' x (List.replicate n 0) → Run Z EL sv p e below s h0 ws Q kc ks T' (mkF m (pc + 2) Ls (.ref x :: st))) :
    Run Z EL sv p e below s h0 ws Q kc ks T (mkF m pc Ls (.int j :: st)) := by
  subst hj
  have hn' : n ≤ 4000 := Nat.le_trans hcap hn
  have q32 := n32' hn'
  obtain ⟨T', h', X', E, lt, A, q⟩ := X.grow (k := cells + 1) (n := slots + cap) (Q' := fun T' h' => h.size < h'.size ∧ Arc (newarray.typeOf aty) Z h' h.size (List.replicate n 0) ∧ ∀ t, Steps p.tables e below (T'.setTop (mkF m (pc + 2) Ls (.ref h.size :: st))) t → Steps p.tables e below (T.setTop (mkF m pc Ls (.int (Int32.ofNat n) :: st))) t) fun vm0 Y hZ ho => by
    obtain ⟨T', h', kA, Y', e', E, A, q⟩ := newP Y X.ex hZ w X.eh (g := mkF m pc Ls (.int (Int32.ofNat n) :: st)) rfl (X.de hd) rfl q32.1 (cap := cap) (by rw [q32.2]; exact hcap) (by omega) hc hl
    have V := Arv.new A q32.1
    rw [hi] at V
    refine ⟨T', h', Y', e', E, A.lt, A.lt, ⟨kA, ?_, by simpa using hn'⟩, q⟩
    have V2 := V.pad (vs' := (List.replicate n (0 : Int32)).map Value.int) fun i => by
      have := pad_rep [] (.int 0) n i
      simpa using this
    simpa using V2
  exact Run.via q (k T' h' _ rfl X' (extK E) lt A)
theorem idx_of {j : Int32} {i n : Nat} (hj : j = Int32.ofNat i) (hi : i < n) (hn : n ≤ 4000) : ¬ (j < 0 ∨ (Int32.ofNat n).toNatClampNeg ≤ j.toNatClampNeg) ∧ j.toNatClampNeg = i := by
  subst hj
  have a := n32' (n := i) (by omega)
  have b := n32' hn
  exact ⟨fun q => q.elim a.1 fun q => by rw [a.2, b.2] at q; omega, a.2⟩
theorem Arc.set {ty : FieldType} {h' : Heap} {b : Addr} {cs : List Int32} {j v' : Int32} {i : Nat} {kA : ClassId} {cl : Cell} (hlen : cs.length ≤ 4000) (A : Arr Z h b cl ty) (q1 : cl.cls = kA) (S : cl.slots.size = (Int32.ofNat cs.length).toNatClampNeg) (q3 : ¬ Int32.ofNat cs.length < 0) (H : RoadKit.Has cl (cs.map Value.int) (.int 0)) (G : ∀ i, i < cl.slots.size → fits ty ((cs.map Value.int).getD i (.int 0)) = true) (hv : fits ty (.int v') = true) (W : Wr h h' b j.toNatClampNeg (.int v')) (j2 : j.toNatClampNeg = i) (hi : i < cs.length) : Arc ty Z h' b (cs.set i v') := by
  have V' := Arv.set A q1 S q3 H G hv W i j2 (by simpa using hi)
  refine ⟨kA, ?_, by simpa using hlen⟩
  have e1 : (cs.map Value.int).set i (.int v') = (cs.set i v').map Value.int := by simp [List.map_set]
  rw [e1] at V'
  simpa using V'
theorem Run.castore (X : Sit Z a0 EL p l e R s m args below meth c own bytes maxL rt nm h0 ws sf T h locs cells slots) {pc i : Nat} {j v v' : Int32} {b : Addr} {cs : List Int32} {Ls : Array Slot} {st : List Value} (A : Arc .char Z h b cs) (hj : j = Int32.ofNat i) (hi : i < cs.length) (hv : nar .char v = v') (ha : b ∈ ws ∨ h0.size ≤ b) (hz : Z.heap.size ≤ b) (hd : decode bytes pc = .ok (.castore, 1))
    (k : ∀ (T' : State) (h' : Heap) (L : List Loc), Sit Z a0 EL p l e R s m args below meth c own bytes maxL rt nm h0 ws sf T' h' (locs ++ L) cells slots → Keep h h' [b] → h'.size = h.size → Arc .char Z h' b (cs.set i v') → Run Z EL sv p e below s h0 ws Q kc ks T' (mkF m (pc + 1) Ls st)) : Run Z EL sv p e below s h0 ws Q kc ks T (mkF m pc Ls (.int v :: .int j :: .ref b :: st)) := by
  obtain ⟨kA, V, hlen⟩ := A
  obtain ⟨cl, A, q1, S, q3, H, G⟩ := id V
  obtain ⟨j1, j2⟩ := idx_of hj hi hlen
  obtain ⟨T', h', L', X', K, W, q⟩ := X.go (k := cells) (n := slots) (wz := [b]) (Q' := fun T' h' _ => Wr h h' b j.toNatClampNeg (.int (nar .char v)) ∧ ∀ t, Steps p.tables e below (T'.setTop (mkF m (pc + 1) Ls st)) t → Steps p.tables e below (T.setTop (mkF m pc Ls (.int v :: .int j :: .ref b :: st))) t) (fun x hx => by cases List.mem_singleton.mp hx; exact ⟨ha, hz⟩) (fun vm0 al hs x hx => by cases List.mem_singleton.mp hx; exact Safe.arv al V (by decide)) fun vm0 Y hZ ho => by
    obtain ⟨T', h', Y', e', W, q⟩ := stC Y X.ex hZ X.eh A (j := j) (by rw [S]; exact j1) (g := mkF m pc Ls (.int v :: .int j :: .ref b :: st)) rfl rfl (X.de hd)
    exact ⟨T', h', _, Y', e', Keep.of_wr W, fun y hy => by cases List.mem_singleton.mp hy; exact hz, W, q⟩
  rw [hv] at W
  exact Run.via q (k T' h' L' X' K W.size (Arc.set hlen A q1 S q3 H G (by rw [← hv]; exact fits_nar_char _) W j2 hi))
theorem Run.bastore (X : Sit Z a0 EL p l e R s m args below meth c own bytes maxL rt nm h0 ws sf T h locs cells slots) {pc i : Nat} {j v v' : Int32} {b : Addr} {cs : List Int32} {Ls : Array Slot} {st : List Value} (A : Arc .byte Z h b cs) (hj : j = Int32.ofNat i) (hi : i < cs.length) (hv : nar .byte v = v') (ha : b ∈ ws ∨ h0.size ≤ b) (hz : Z.heap.size ≤ b) (hsf : b ∈ sf) (hd : decode bytes pc = .ok (.bastore, 1))
    (k : ∀ (T' : State) (h' : Heap) (L : List Loc), Sit Z a0 EL p l e R s m args below meth c own bytes maxL rt nm h0 ws sf T' h' (locs ++ L) cells slots → Keep h h' [b] → h'.size = h.size → Arc .byte Z h' b (cs.set i v') → Run Z EL sv p e below s h0 ws Q kc ks T' (mkF m (pc + 1) Ls st)) : Run Z EL sv p e below s h0 ws Q kc ks T (mkF m pc Ls (.int v :: .int j :: .ref b :: st)) := by
  obtain ⟨kA, V, hlen⟩ := A
  obtain ⟨cl, A, q1, S, q3, H, G⟩ := id V
  obtain ⟨j1, j2⟩ := idx_of hj hi hlen
  obtain ⟨T', h', L', X', K, W, q⟩ := X.go (k := cells) (n := slots) (wz := [b]) (Q' := fun T' h' _ => Wr h h' b j.toNatClampNeg (.int (nar .byte v)) ∧ ∀ t, Steps p.tables e below (T'.setTop (mkF m (pc + 1) Ls st)) t → Steps p.tables e below (T.setTop (mkF m pc Ls (.int v :: .int j :: .ref b :: st))) t) (fun x hx => by cases List.mem_singleton.mp hx; exact ⟨ha, hz⟩) (fun vm0 al hs x hx => by cases List.mem_singleton.mp hx; exact hs b hsf) fun vm0 Y hZ ho => by
    obtain ⟨T', h', Y', e', W, q⟩ := stB Y X.ex hZ X.eh A (j := j) (by rw [S]; exact j1) (g := mkF m pc Ls (.int v :: .int j :: .ref b :: st)) rfl rfl (X.de hd)
    exact ⟨T', h', _, Y', e', Keep.of_wr W, fun y hy => by cases List.mem_singleton.mp hy; exact hz, W, q⟩
  rw [hv] at W
  exact Run.via q (k T' h' L' X' K W.size (Arc.set hlen A q1 S q3 H G (by rw [← hv]; exact fits_nar_byte _) W j2 hi))
theorem Run.caload (X : Sit Z a0 EL p l e R s m args below meth c own bytes maxL rt nm h0 ws sf T h locs cells slots) {pc i : Nat} {j : Int32} {b : Addr} {cs : List Int32} {Ls : Array Slot} {st : List Value} (A : Arc .char Z h b cs) (hj : j = Int32.ofNat i) (hi : i < cs.length) (hd : decode bytes pc = .ok (.caload, 1))
    (k : Run Z EL sv p e below s h0 ws Q kc ks T (mkF m (pc + 1) Ls (.int (cs.getD i 0) :: st))) : Run Z EL sv p e below s h0 ws Q kc ks T (mkF m pc Ls (.int j :: .ref b :: st)) := by
  obtain ⟨kA, V, hlen⟩ := A
  obtain ⟨cl, A, q1, S, q3, H, G⟩ := V
  obtain ⟨j1, j2⟩ := idx_of hj hi hlen
  obtain ⟨-, vm0, k0, Y, r1, r2, -⟩ := id X
  exact Run.via (fun t r => Y.caload X.ex (j := j) (v := .int (cs.getD i 0)) (by rw [X.eh]; exact A.1) (State.isArrayOf_alike r1.alike A.2.1) A.2.2 (by rw [S]; exact j1) (by rw [j2, H i (by rw [S, (n32' hlen).2]; exact hi), getD_map]) (g := mkF m pc Ls (.int j :: .ref b :: st)) rfl rfl (X.de hd) t r) k
theorem Run.baload (X : Sit Z a0 EL p l e R s m args below meth c own bytes maxL rt nm h0 ws sf T h locs cells slots) {pc i : Nat} {j : Int32} {b : Addr} {cs : List Int32} {Ls : Array Slot} {st : List Value} (A : Arc .byte Z h b cs) (hj : j = Int32.ofNat i) (hi : i < cs.length) (hd : decode bytes pc = .ok (.baload, 1))
    (k : Run Z EL sv p e below s h0 ws Q kc ks T (mkF m (pc + 1) Ls (.int (cs.getD i 0) :: st))) : Run Z EL sv p e below s h0 ws Q kc ks T (mkF m pc Ls (.int j :: .ref b :: st)) := by
  obtain ⟨kA, V, hlen⟩ := A
  obtain ⟨cl, A, q1, S, q3, H, G⟩ := V
  obtain ⟨j1, j2⟩ := idx_of hj hi hlen
  obtain ⟨-, vm0, k0, Y, r1, r2, -⟩ := id X
  exact Run.via (fun t r => Y.baloadBytes X.ex (j := j) (v := .int (cs.getD i 0)) (by rw [X.eh]; exact A.1) (State.isArrayOf_alike r1.alike A.2.1) A.2.2 (by rw [S]; exact j1) (by rw [j2, H i (by rw [S, (n32' hlen).2]; exact hi), getD_map]) (g := mkF m pc Ls (.int j :: .ref b :: st)) rfl rfl (X.de hd) t r) k
theorem Run.alen {ty : FieldType} (X : Sit Z a0 EL p l e R s m args below meth c own bytes maxL rt nm h0 ws sf T h locs cells slots) {pc : Nat} {b : Addr} {cs : List Int32} {Ls : Array Slot} {st : List Value} (A : Arc ty Z h b cs) (hd : decode bytes pc = .ok (.arraylength, 1))
    (k : Run Z EL sv p e below s h0 ws Q kc ks T (mkF m (pc + 1) Ls (.int (Int32.ofNat cs.length) :: st))) : Run Z EL sv p e below s h0 ws Q kc ks T (mkF m pc Ls (.ref b :: st)) := by
  obtain ⟨kA, V, hlen⟩ := A
  obtain ⟨cl, A, q1, S, q3, H, G⟩ := V
  obtain ⟨-, vm0, k0, Y, r1, r2, -⟩ := id X
  refine Run.via (fun t r => Y.arraylength X.ex (by rw [X.eh]; exact A.1) (State.isArrayOf_alike r1.alike A.2.1) (g := mkF m pc Ls (.ref b :: st)) rfl rfl (X.de hd) t ?_) k
  rw [len_of S q3]
  exact r
/-! calls -/
theorem Con.payS {y : MethodName} {rm : Room} {as' : Array Value} {wz sz : List Addr} {Q' : Option Value → Heap → Prop} {by' : ByteArray} {ml : Nat} {rt' : Option FieldType} {len W : Nat} {vm0 : Vm} {su : Bool} (C : Con l Z a0 EL su y by' ml rt' rm wz sz as' h Q') (hEL : EW Z a0 EL) (hZ : Z.Warmed39 vm0) (H : CHv Z EL vm0 h) (hsz : ∀ x ∈ sz, x < h.size ∧ Safe Z EL vm0 h x) (wc : (Cond.code y by' ml rt').before a0 Z = true) (wz' : (Cond.initialized y.cls).before a0 Z = true) (hf : rm.frames + 1 ≤ R.frames) (hl : W + (ml + 11) + rm.locals ≤ R.locals) :
    BackS l R p e below (s.setVm vm0) args y len W (fun A a => a = as' ∧ A.U.heap = h ∧ A.cells + rm.cells ≤ R.cells ∧ A.slots + rm.slots ≤ R.slots)
      (fun A _ v B => ∃ L, (Fr Z.heap.size L ∧ Keep h B.U.heap wz ∧ Q' v B.U.heap) ∧ B.locs = A.locs ++ L ∧ B.cells = A.cells + rm.cells ∧ B.slots = A.slots + rm.slots ∧ CHr Z EL vm0 h B.U.vm B.U.heap ∧ (NW = true → (s.setVm vm0).WarmedH B.U.vm) ∧ (su = true → ∀ x, v = some (.ref x) → x < B.U.heap.size ∧ Safe Z EL B.U.vm B.U.heap x)) :=
  BackS.of_freeW (bytes := by') (maxL := ml) (ret := rt') (E := fun _ first o t L k n => k = rm.cells ∧ n = rm.slots ∧ (∃ v, o = .returned v ∧ (Fr Z.heap.size L ∧ Keep h t.heap wz ∧ Q' v t.heap) ∧ (su = true → ∀ x, v = some (.ref x) → x < t.heap.size ∧ Safe Z EL t.vm t.heap x)) ∧ CHr Z EL first.vm h t.vm t.heap ∧ (NW = true → first.WarmedH t.vm)) (C hEL []) hf hl
    (fun m meth c A a Y hp => have hU : Z.Warmed39 A.U.vm := wtrans (s := s.setVm vm0) hZ Y.warmed
      ⟨by show (Cond.and _ .tt).before a A.U = true; rw [Cond.before_and, mv hU wc]; rfl, mv hU wc, mv hU wz', hp.2.2.1, hp.2.2.2⟩)
    (fun m meth c A a g mk Y hp => ⟨hp.1, wtrans (s := s.setVm vm0) hZ Y.warmed, hp.2.1, (CHv.at Y hZ hEL H).1, fun x hx => ⟨(hsz x hx).1, (CHv.at Y hZ hEL H).safe (hsz x hx).1 (hsz x hx).2⟩⟩) (fun _ _ _ _ _ _ _ _ _ => trivial)
    (fun _ _ _ _ ⟨v, L, g1, g2, g3, g4, g5, g6⟩ => ⟨L, _, _, g4, rfl, rfl, ⟨v, g1, g2, g6⟩, g3, g5⟩)
    (fun m meth c A a g mk v t L k n Y hp _ _ ⟨e1, e2, ⟨v', e3, e4, e7⟩, e5, e6⟩ => by
      cases e3; subst e1 e2
      exact ⟨L, e4, rfl, rfl, rfl, (CHv.at Y hZ hEL H).trans e5, fun z => State.WarmedH.trans (t := A.U) Y.warmed (e6 z), e7⟩)
/-- what a call by a contract leaves, whichever instruction made it -/
theorem Run.called (X : Sit Z a0 EL p l e R s m args below meth c own bytes maxL rt nm h0 ws sf T h locs cells slots) {y : MethodName} {by' : ByteArray} {ml : Nat} {rt' : Option FieldType} {rm : Room} {wz sz : List Addr} {Q' : Option Value → Heap → Prop} {len pc W : Nat} {Ls : Array Slot} {st rest : List Value} {as' : Array Value}
    {su : Bool} (C : Con l Z a0 EL su y by' ml rt' rm wz sz as' h Q') (w3 : (Cond.initialized y.cls).before a0 Z = true) (w4 : (Cond.code y by' ml rt').before a0 Z = true) (hf : rm.frames + 1 ≤ R.frames) (hl : W + (ml + 11) + rm.locals ≤ R.locals) (hwz : ∀ x ∈ wz, (x ∈ ws ∨ h0.size ≤ x) ∧ Z.heap.size ≤ x) (hsz : ∀ x ∈ sz, x ∈ sf)
    (q : ∀ vm0, Stand p l e R (s.setVm vm0) m args below meth c T locs cells slots → Z.Warmed39 (s.setVm vm0).vm → (s.setVm vm0).vm.findClass own = some m.cls →
      ∀ {Post : Pt → Array Value → Option Value → Pt → Prop}, BackS l R p e below (s.setVm vm0) args y len W (fun A a => a = as' ∧ A.U.heap = h ∧ A.cells + rm.cells ≤ R.cells ∧ A.slots + rm.slots ≤ R.slots) Post → ∃ (v : Option Value) (vm₁ : Vm) (B : Pt), (s.setVm vm0).WarmedH vm₁ ∧ Stand p l e R ((s.setVm vm0).setVm B.U.vm) m args below meth c B.U B.locs B.cells B.slots ∧ (s.setVm vm0).Since B.U.vm B.U.heap.size ∧ T.heap.size ≤ B.U.heap.size ∧ Post ⟨T.setVm vm₁, locs, cells, slots⟩ as' v B ∧ Steps p.tables e below (T.setTop (mkF m pc Ls st)) (B.U.setTop (mkF m (pc + len) Ls (v.toList ++ rest))))
    (k : ∀ (v : Option Value) (T' : State) (h' : Heap) (L : List Loc), Q' v h' → Sit Z a0 EL p l e R s m args below meth c own bytes maxL rt nm h0 ws sf T' h' (locs ++ L) (cells + rm.cells) (slots + rm.slots) → (su = true → ∀ x, v = some (.ref x) → Sit Z a0 EL p l e R s m args below meth c own bytes maxL rt nm h0 ws (x :: sf) T' h' (locs ++ L) (cells + rm.cells) (slots + rm.slots)) → Keep h h' wz → Run Z EL sv p e below s h0 ws Q kc ks T' (mkF m (pc + len) Ls (v.toList ++ rest))) : Run Z EL sv p e below s h0 ws Q kc ks T (mkF m pc Ls st) := by
  obtain ⟨T', h', L, sx, X', K, v, q3, rfl, sp⟩ := X.reb (k := cells + rm.cells) (n := slots + rm.slots) (wz := wz) (Q' := fun T' h' L sx => ∃ v, Q' v h' ∧ sx = rvs su v ∧ Steps p.tables e below (T.setTop (mkF m pc Ls st)) (T'.setTop (mkF m (pc + len) Ls (v.toList ++ rest)))) hwz fun vm0 k0 Y hZ ho hS hk H hs => by
    obtain ⟨v, vm₁, ⟨T', L', k', n'⟩, -, Y', S', hT, ⟨Lc, ⟨q1, q2, q3⟩, l1, y1, z1, C1, n1, f1⟩, sp⟩ := q vm0 Y hZ ho (C.payS (W := W) X.ew hZ H (fun x hx => hs x (hsz x hx)) w4 w3 hf hl)
    dsimp only [Pt.U, Pt.locs, Pt.cells, Pt.slots] at Y' S' hT l1 y1 z1 sp q1 q2 q3 C1 n1 f1
    subst l1 y1 z1
    exact ⟨T', T'.heap, Lc, T'.vm, T'.heap.size, rvs su v, Y', rfl, q2, q1, State.Warmed39.trans (t := s.setVm vm0) hZ S'.1, (S'.1.alike.findClass _ _).trans ho, hS.trans S' (Nat.le_trans hk (by rw [X.eh] at hT; exact hT)), Nat.le_refl _, C1, n1, rvs_safe f1, v, q3, rfl, sp⟩
  refine Run.on sp (k v T' h' L q3 (X'.less fun x hx => List.mem_append_right _ hx) (fun z x hx => ?_) K)
  subst z hx
  exact X'
theorem Run.callS (X : Sit Z a0 EL p l e R s m args below meth c own bytes maxL rt nm h0 ws sf T h locs cells slots) {y : MethodName} {by' : ByteArray} {ml : Nat} {rt' : Option FieldType} {rm : Room} {wz sz : List Addr} {Q' : Option Value → Heap → Prop} {index pc W : Nat} {Ls : Array Slot} {st argsL rest : List Value} {ps : List FieldType} {rr : Option FieldType}
    {su : Bool} (C : Con l Z a0 EL su y by' ml rt' rm wz sz argsL.toArray h Q') (w1 : (Cond.methodLink own index y).before a0 Z = true) (w2 : (Cond.static y).before a0 Z = true) (w3 : (Cond.initialized y.cls).before a0 Z = true) (w4 : (Cond.code y by' ml rt').before a0 Z = true) (hy : y.cls ≠ "java/lang/invoke/MethodHandle" ∧ y.cls ≠ "java/lang/invoke/VarHandle")
    (hds : parseMethodDescriptor y.desc = some ⟨ps, rr⟩) (hln : argsL.length = ps.length) (hst : st = argsL.reverse ++ rest) (hW : (rest.map fun v => v.category).sum ≤ W) (hsz : Ls.size = maxL) (hd : decode bytes pc = .ok (.invokestatic index, 3)) (hf : rm.frames + 1 ≤ R.frames) (hl : W + (ml + 11) + rm.locals ≤ R.locals) (hc : cells + rm.cells ≤ R.cells) (hs : slots + rm.slots ≤ R.slots) (hwz : ∀ x ∈ wz, (x ∈ ws ∨ h0.size ≤ x) ∧ Z.heap.size ≤ x) (hsf : ∀ x ∈ sz, x ∈ sf)
    (k : ∀ (v : Option Value) (T' : State) (h' : Heap) (L : List Loc), Q' v h' → Sit Z a0 EL p l e R s m args below meth c own bytes maxL rt nm h0 ws sf T' h' (locs ++ L) (cells + rm.cells) (slots + rm.slots) → (su = true → ∀ x, v = some (.ref x) → Sit Z a0 EL p l e R s m args below meth c own bytes maxL rt nm h0 ws (x :: sf) T' h' (locs ++ L) (cells + rm.cells) (slots + rm.slots)) → Keep h h' wz → Run Z EL sv p e below s h0 ws Q kc ks T' (mkF m (pc + 3) Ls (v.toList ++ rest))) : Run Z EL sv p e below s h0 ws Q kc ks T (mkF m pc Ls st) :=
  Run.called X (len := 3) (W := W) C w3 w4 hf hl hwz hsf (fun vm0 Y hZ ho _ bk => callSS Y X.ex (y := y) ho (mv hZ w1) (mv hZ w2) (mv hZ w3) (mv hZ w4) hy bk (g := mkF m pc Ls st) rfl (hsz.trans X.ml.symm) (argsL := argsL) (rest := rest) (lenOf hds hln) hst (by show 2 * 0 + _ ≤ _; omega) (X.de hd) (fun _ _ => ⟨rfl, X.eh, hc, hs⟩)) k
theorem Run.callN (X : Sit Z a0 EL p l e R s m args below meth c own bytes maxL rt nm h0 ws sf T h locs cells slots) {y : MethodName} {by' : ByteArray} {ml : Nat} {rm : Room} {wz sz : List Addr} {Q' : Option Value → Heap → Prop} {index pc W : Nat} {Ls : Array Slot} {a : Addr} {st argsL rest : List Value} {ps : List FieldType} {rr : Option FieldType}
    {su : Bool} (C : Con l Z a0 EL su y by' ml none rm wz sz (.ref a :: argsL).toArray h Q') (hi : y.name = "<init>") (w1 : (Cond.methodLink own index y).before a0 Z = true) (w2 : (Cond.instanceMethod y).before a0 Z = true) (w3 : (Cond.initialized y.cls).before a0 Z = true) (w4 : (Cond.code y by' ml none).before a0 Z = true) (hy : y.cls ≠ "java/lang/invoke/MethodHandle" ∧ y.cls ≠ "java/lang/invoke/VarHandle")
    (hds : parseMethodDescriptor y.desc = some ⟨ps, rr⟩) (hln : argsL.length = ps.length) (hst : st = argsL.reverse ++ .ref a :: rest) (hW : (rest.map fun v => v.category).sum ≤ W) (hsz : Ls.size = maxL) (hd : decode bytes pc = .ok (.invokespecial index, 3)) (hf : rm.frames + 1 ≤ R.frames) (hl : W + (ml + 11) + rm.locals ≤ R.locals) (hc : cells + rm.cells ≤ R.cells) (hs : slots + rm.slots ≤ R.slots) (hwz : ∀ x ∈ wz, (x ∈ ws ∨ h0.size ≤ x) ∧ Z.heap.size ≤ x) (hsf : ∀ x ∈ sz, x ∈ sf)
    (k : ∀ (v : Option Value) (T' : State) (h' : Heap) (L : List Loc), Q' v h' → Sit Z a0 EL p l e R s m args below meth c own bytes maxL rt nm h0 ws sf T' h' (locs ++ L) (cells + rm.cells) (slots + rm.slots) → (su = true → ∀ x, v = some (.ref x) → Sit Z a0 EL p l e R s m args below meth c own bytes maxL rt nm h0 ws (x :: sf) T' h' (locs ++ L) (cells + rm.cells) (slots + rm.slots)) → Keep h h' wz → Run Z EL sv p e below s h0 ws Q kc ks T' (mkF m (pc + 3) Ls (v.toList ++ rest))) : Run Z EL sv p e below s h0 ws Q kc ks T (mkF m pc Ls st) :=
  Run.called X (len := 3) (W := W) C w3 w4 hf hl hwz hsf (fun vm0 Y hZ ho _ bk => Y.specialBackS X.ex (y := y) hi ho (mv hZ w1) (mv hZ w2) (mv hZ w4) hy bk (g := mkF m pc Ls st) rfl (hsz.trans X.ml.symm) (Steps.refl _) (a := a) (argsL := argsL) (rest := rest) (lenOf hds hln) hst (by show 2 * 0 + _ ≤ _; omega) (X.de hd) (fun _ _ => ⟨rfl, X.eh, hc, hs⟩)) k
theorem Run.callV (X : Sit Z a0 EL p l e R s m args below meth c own bytes maxL rt nm h0 ws sf T h locs cells slots) {y : MethodName} {by' : ByteArray} {ml : Nat} {rt' : Option FieldType} {rm : Room} {wz sz : List Addr} {Q' : Option Value → Heap → Prop} {index pc W : Nat} {Ls : Array Slot} {a : Addr} {cls : String} {st argsL rest : List Value} {ps : List FieldType} {rr : Option FieldType}
    {su : Bool} (C : Con l Z a0 EL su y by' ml rt' rm wz sz (.ref a :: argsL).toArray h Q') (E : Exa Z h a cls) (w1 : (Cond.methodLink own index y).before a0 Z = true) (wd : (Cond.declares y).before a0 Z = true) (w2 : (Cond.instanceMethod y).before a0 Z = true) (wl : (Cond.selects cls y y).before a0 Z = true) (w3 : (Cond.initialized y.cls).before a0 Z = true) (w4 : (Cond.code y by' ml rt').before a0 Z = true) (hy : y.cls ≠ "java/lang/invoke/MethodHandle" ∧ y.cls ≠ "java/lang/invoke/VarHandle")
    (hds : parseMethodDescriptor y.desc = some ⟨ps, rr⟩) (hln : argsL.length = ps.length) (hst : st = argsL.reverse ++ .ref a :: rest) (hW : (rest.map fun v => v.category).sum ≤ W) (hsz : Ls.size = maxL) (hd : decode bytes pc = .ok (.invokevirtual index, 3)) (hf : rm.frames + 1 ≤ R.frames) (hl : W + (ml + 11) + rm.locals ≤ R.locals) (hc : cells + rm.cells ≤ R.cells) (hs : slots + rm.slots ≤ R.slots) (hwz : ∀ x ∈ wz, (x ∈ ws ∨ h0.size ≤ x) ∧ Z.heap.size ≤ x) (hsf : ∀ x ∈ sz, x ∈ sf)
    (k : ∀ (v : Option Value) (T' : State) (h' : Heap) (L : List Loc), Q' v h' → Sit Z a0 EL p l e R s m args below meth c own bytes maxL rt nm h0 ws sf T' h' (locs ++ L) (cells + rm.cells) (slots + rm.slots) → (su = true → ∀ x, v = some (.ref x) → Sit Z a0 EL p l e R s m args below meth c own bytes maxL rt nm h0 ws (x :: sf) T' h' (locs ++ L) (cells + rm.cells) (slots + rm.slots)) → Keep h h' wz → Run Z EL sv p e below s h0 ws Q kc ks T' (mkF m (pc + 3) Ls (v.toList ++ rest))) : Run Z EL sv p e below s h0 ws Q kc ks T (mkF m pc Ls st) :=
  Run.called X (len := 3) (W := W) C w3 w4 hf hl hwz hsf (fun vm0 Y hZ ho _ bk => by
    obtain ⟨cq, kq, qa, qb, qc⟩ := isOf (s := s.setVm vm0) hZ X.eh E
    exact Y.virtualBackS X.ex (y := y) (z := y) ho (mv hZ w1) (mv hZ wd) (notFace_of_selects (args := #[]) (mv hZ wl)) (mv hZ wl) (mv hZ w2) hy bk qa qc (g := mkF m pc Ls st) rfl (hsz.trans X.ml.symm) (Steps.refl _) (argsL := argsL) (rest := rest) (lenOf hds hln) hst (by show 2 * 0 + _ ≤ _; omega) (X.de hd) (fun _ _ => ⟨rfl, X.eh, hc, hs⟩)) k
theorem Run.callI (X : Sit Z a0 EL p l e R s m args below meth c own bytes maxL rt nm h0 ws sf T h locs cells slots) {xi y : MethodName} {by' : ByteArray} {ml : Nat} {rt' : Option FieldType} {rm : Room} {wz sz : List Addr} {Q' : Option Value → Heap → Prop} {index count pc W : Nat} {Ls : Array Slot} {a : Addr} {cls : String} {st argsL rest : List Value} {ps : List FieldType} {rr : Option FieldType}
    {su : Bool} (C : Con l Z a0 EL su y by' ml rt' rm wz sz (.ref a :: argsL).toArray h Q') (E : Exa Z h a cls) (w1 : (Cond.methodLink own index xi).before a0 Z = true) (wd : (Cond.declares xi).before a0 Z = true) (wf : (Cond.interfaceMethod xi.cls xi.cls xi.name xi.desc).before a0 Z = true) (hfa : ((Cond.interfaceMethod xi.cls xi.cls xi.name xi.desc).onTables && (Cond.interfaceMethod xi.cls xi.cls xi.name xi.desc).keepsFace) = true) (wl : (Cond.selects cls xi y).before a0 Z = true) (w2 : (Cond.instanceMethod y).before a0 Z = true) (wp : (Cond.publicMethod y).before a0 Z = true) (wu : (Cond.unhidden cls xi.name xi.desc).before a0 Z = true) (wc : (Cond.castable cls xi.cls).before a0 Z = true) (w3 : (Cond.initialized y.cls).before a0 Z = true) (w4 : (Cond.code y by' ml rt').before a0 Z = true) (hy : xi.cls ≠ "java/lang/invoke/MethodHandle" ∧ xi.cls ≠ "java/lang/invoke/VarHandle")
    (hds : parseMethodDescriptor xi.desc = some ⟨ps, rr⟩) (hln : argsL.length = ps.length) (hst : st = argsL.reverse ++ .ref a :: rest) (hW : (rest.map fun v => v.category).sum ≤ W) (hsz : Ls.size = maxL) (hd : decode bytes pc = .ok (.invokeinterface index count, 5)) (hf : rm.frames + 1 ≤ R.frames) (hl : W + (ml + 11) + rm.locals ≤ R.locals) (hc : cells + rm.cells ≤ R.cells) (hs : slots + rm.slots ≤ R.slots) (hwz : ∀ x ∈ wz, (x ∈ ws ∨ h0.size ≤ x) ∧ Z.heap.size ≤ x) (hsf : ∀ x ∈ sz, x ∈ sf)
    (k : ∀ (v : Option Value) (T' : State) (h' : Heap) (L : List Loc), Q' v h' → Sit Z a0 EL p l e R s m args below meth c own bytes maxL rt nm h0 ws sf T' h' (locs ++ L) (cells + rm.cells) (slots + rm.slots) → (su = true → ∀ x, v = some (.ref x) → Sit Z a0 EL p l e R s m args below meth c own bytes maxL rt nm h0 ws (x :: sf) T' h' (locs ++ L) (cells + rm.cells) (slots + rm.slots)) → Keep h h' wz → Run Z EL sv p e below s h0 ws Q kc ks T' (mkF m (pc + 5) Ls (v.toList ++ rest))) : Run Z EL sv p e below s h0 ws Q kc ks T (mkF m pc Ls st) :=
  Run.called X (len := 5) (W := W) C w3 w4 hf hl hwz hsf (fun vm0 Y hZ ho _ bk => by
    obtain ⟨cq, kq, qa, qb, qc⟩ := isOf (s := s.setVm vm0) hZ X.eh E
    exact Y.interfaceBackS X.ex (xi := xi) (y := y) ho (mv hZ w1) (mv hZ wd) (mv hZ wf hfa) (mv hZ wl) (mv hZ w2) (mv hZ wp) (mv hZ wu) (mv hZ wc) hy bk qa qb qc (g := mkF m pc Ls st) rfl (hsz.trans X.ml.symm) (Steps.refl _) (argsL := argsL) (rest := rest) (lenOf hds hln) hst (by show 2 * 0 + _ ≤ _; omega) (X.de hd) (fun _ _ => ⟨rfl, X.eh, hc, hs⟩)) k
end Pre
end Jvm.Pilot.@@N@@
-- part str
namespace Jvm.Pilot.@@N@@
open Jvm Jvm.ClassFile Sem Op Lib Jvm.Free Jvm.Stand Jvm.LawKit Jvm.RoadKit Bundle Jvm.Pilot.@@N@@.Jvm.D
section Strs
variable {Z : State} {a0 : Array Value} {EL : List (String × Nat)} {sv : Bool} {p : Program} {l : Launch} {e : Env} {R : Room} {s : State} {m : MethodId} {args : Array Value} {below : List Frame} {meth : Method} {c : Code} {own : String} {bytes : ByteArray} {maxL : Nat} {rt : Option FieldType} {nm : String} {h0 : Heap} {ws sf : List Addr} {T : State} {h h' : Heap} {locs : List Loc} {cells slots : Nat} {Q : Option Value → Heap → Prop} {kc ks : Nat} {a : Addr} {cs : List Int32}
/-- the String a spells cs -/
def Str (Z : State) (h : Heap) (a : Addr) (cs : List Int32) : Prop :=
  Exa Z h a "java/lang/String" ∧ ∃ (t : Addr) (kb : ClassId) (cd N2 : Int32) (vs : List Value), Fld Z h a "java/lang/String" "value" "[B" (.ref t) ∧ Fld Z h a "java/lang/String" "coder" "B" (.int cd) ∧ Arv Z h t kb .byte N2 vs (.int 0) ∧ StrChars.Road.CodA cs cd N2 vs ∧ (∀ c ∈ cs, ¬ c < 0 ∧ ¬ (65535 : Int32) < c) ∧ cs.length ≤ 4000
theorem Str.keep (S : Str Z h a cs) (K : Keep h h' []) : Str Z h' a cs := by
  obtain ⟨E, t, kb, cd, N2, vs, V, C, A, r⟩ := S
  exact ⟨E.keep K, t, kb, cd, N2, vs, V.keep K nin0, C.keep K nin0, A.keep K nin0, r⟩
theorem Str.lt (S : Str Z h a cs) : @LT.lt Nat _ a h.size := S.1.lt
/-- a String as 'new' leaves it -/
def Raw (Z : State) (h : Heap) (a : Addr) : Prop := Exa Z h a "java/lang/String" ∧ Fld Z h a "java/lang/String" "value" "[B" .null ∧ Fld Z h a "java/lang/String" "coder" "B" (.int 0)
theorem Raw.keep {wz : List Addr} (S : Raw Z h a) (K : Keep h h' wz) (q : a ∉ wz) : Raw Z h' a := ⟨S.1.keep K, S.2.1.keep K q, S.2.2.keep K q⟩
/-- the JDK's statics -/
def Sets (Z : State) : Prop := ∃ (z : Int32) (fm : Value), Sta Z Z.heap "java/lang/String" "COMPACT_STRINGS" "Z" (.int z) ∧ ¬ z = 0 ∧ Sta Z Z.heap "jdk/internal/util/Preconditions" "SIOOBE_FORMATTER" "Ljava/util/function/BiFunction;" fm ∧ fm.isRef = true
theorem up (cs : List Int32) (h : ∀ c ∈ cs, ¬ c < 0 ∧ ¬ (255 : Int32) < c) : ∀ c ∈ cs, ¬ c < 0 ∧ ¬ (65535 : Int32) < c := fun c hc => ⟨(h c hc).1, fun q => (h c hc).2 (by rw [Int32.lt_iff_toInt_lt] at q ⊢; have e1 : (65535 : Int32).toInt = 65535 := rfl; have e2 : (255 : Int32).toInt = 255 := rfl; omega)⟩
theorem hwsV (hw : ∀ d ∈ tables_1, d.before a0 Z = true) : ∀ d ∈ StrChars.Road.words, d.before a0 Z = true := fun d hd => hw d ((by decide +kernel : ∀ d ∈ StrChars.Road.words, d ∈ tables_1) d hd)
/-- new String(char[]): the constructor's call -/
theorem Run.initStr (hw : ∀ d ∈ tables_1, d.before a0 Z = true) (hS : Sets Z) (X : Sit Z a0 EL p l e R s m args below meth c own bytes maxL rt nm h0 ws sf T h locs cells slots) {x b : Addr} {index pc W : Nat} {Ls : Array Slot} {rest : List Value} (G : Raw Z h x) (A : Arc .char Z h b cs) (hcs : ∀ c ∈ cs, ¬ c < 0 ∧ ¬ (255 : Int32) < c) (h1 : 0 < cs.length)
    (w1 : (Cond.methodLink own index (⟨"java/lang/String", "<init>", "([C)V"⟩ : MethodName)).before a0 Z = true) (w2 : (Cond.instanceMethod (⟨"java/lang/String", "<init>", "([C)V"⟩ : MethodName)).before a0 Z = true) (wi : (Cond.instantiable "java/lang/String" 4).before a0 Z = true) (hd : decode bytes pc = .ok (.invokespecial index, 3)) (hsz : Ls.size = maxL) (hx : x ∈ ws ∨ h0.size ≤ x) (hz : Z.heap.size ≤ x) (hsf : x ∈ sf)
    (hW : (rest.map fun v => v.category).sum ≤ W) (hf : 4 ≤ R.frames) (hl : W + 65 ≤ R.locals) (hc : cells + 1 ≤ R.cells) (hs : slots + cs.length ≤ R.slots)
    (k : ∀ (T' : State) (h' : Heap) (L : List Loc), Sit Z a0 EL p l e R s m args below meth c own bytes maxL rt nm h0 ws sf T' h' (locs ++ L) (cells + 1) (slots + cs.length) → Keep h h' [x] → Str Z h' x cs → Run Z EL sv p e below s h0 ws Q kc ks T' (mkF m (pc + 3) Ls rest)) : Run Z EL sv p e below s h0 ws Q kc ks T (mkF m pc Ls (.ref b :: .ref x :: rest)) := by
  obtain ⟨zz, fm, S1, S2, S3, S4⟩ := hS
  obtain ⟨kA, V, hlen⟩ := A
  have wc := hwsV hw _ (List.mem_cons_self ..)
  obtain ⟨T', h', L', X', K, S, sp⟩ := X.go (k := cells + 1) (n := slots + cs.length) (wz := [x]) (Q' := fun T' h' _ => Str Z h' x cs ∧ Steps p.tables e below (T.setTop (mkF m pc Ls (.ref b :: .ref x :: rest))) (T'.setTop (mkF m (pc + 3) Ls rest))) (fun y hy => by cases List.mem_singleton.mp hy; exact ⟨hx, hz⟩) (fun vm0 al hs y hy => by cases List.mem_singleton.mp hy; exact hs x hsf) fun vm0 Y hZ ho => by
    obtain ⟨v, _, ⟨T', L', k', n'⟩, -, Y', ⟨Lc, ⟨q1, q2, q3, q4, q5, t, kb, q6, q7, q8, q9, q10⟩, l1, y1, z1⟩, sp⟩ := Y.specialBack X.ex (y := (⟨"java/lang/String", "<init>", "([C)V"⟩ : MethodName)) rfl ho (mv hZ w1) (mv hZ w2) (mv hZ wc) (by decide) (StrChars.Road.backV (W := W) hZ (hwsV hw) (kI := 4) wi (cs := cs) (bs := cs.map fun c => c.toInt8.toInt32) (n := cs.length) hz X.old.1 G.1 G.2.1 G.2.2 V (S1.ext X.old) S2 rfl rfl h1 hlen hcs rfl hf hl) (g := mkF m pc Ls (.ref b :: .ref x :: rest)) rfl (hsz.trans X.ml.symm) (Steps.refl _) (a := x) (argsL := [.ref b]) (rest := rest) (lenOf (ps := [.array .char]) (r := none) (by decide +kernel) rfl) rfl (by show 2 * 0 + _ ≤ _; omega) (X.de hd) (fun _ _ => ⟨rfl, X.eh, hc, hs⟩)
    dsimp only [Pt.U, Pt.locs, Pt.cells, Pt.slots] at Y' l1 y1 z1 sp q1 q2 q3 q4 q5 q6 q7 q8 q9 q10
    subst l1 y1 z1 q1
    exact ⟨T', T'.heap, Lc, Y', rfl, q3, q2, ⟨q4, t, kb, 0, _, _, q9, q5, q10, StrChars.Road.codOf rfl fun c hc => (hcs c hc).2, up _ hcs, hlen⟩, sp⟩
  exact Run.on sp (k T' h' L' X' K S)
theorem nar_i2c (x : Int32) : nar .char (x.toUInt32.toUInt16.toUInt32.toInt32) = x.toUInt32.toUInt16.toUInt32.toInt32 := by simp only [nar, UInt32.toUInt32_toInt32, UInt16.toUInt16_toUInt32]
theorem and255 (x : Int32) : ¬ ((x &&& (255 : Int32)).toUInt32.toUInt16.toUInt32.toInt32) < 0 ∧ ¬ (255 : Int32) < ((x &&& (255 : Int32)).toUInt32.toUInt16.toUInt32.toInt32) := by
  have t : ∀ k : Fin 256, ¬ ((Int32.ofNat k.val).toUInt32.toUInt16.toUInt32.toInt32) < 0 ∧ ¬ (255 : Int32) < ((Int32.ofNat k.val).toUInt32.toUInt16.toUInt32.toInt32) := by decide +kernel
  have h : (x &&& 255).toBitVec.toNat < 256 := by
    simp only [Int32.toBitVec_and, BitVec.toNat_and]
    exact Nat.lt_succ_of_le Nat.and_le_right
  have e : (x &&& 255) = Int32.ofNat (x &&& 255).toBitVec.toNat := by
    apply Int32.toBitVec_inj.mp
    show _ = BitVec.ofNat 32 _
    rw [BitVec.ofNat_toNat]; simp
  rw [e]
  exact t ⟨_, h⟩
/-- a char, that it is one -/
theorem i2c_rng (x : Int32) : ¬ (x.toUInt32.toUInt16.toUInt32.toInt32) < 0 ∧ ¬ (65535 : Int32) < (x.toUInt32.toUInt16.toUInt32.toInt32) := by
  obtain ⟨-, q1, q2⟩ := c_i2c x
  constructor
  · intro q; rw [Int32.lt_iff_toInt_lt] at q; have : (0 : Int32).toInt = 0 := rfl; omega
  · intro q; rw [Int32.lt_iff_toInt_lt] at q; have : (65535 : Int32).toInt = 65535 := rfl; omega
theorem nar_char {c : Int32} (h : ¬ c < 0 ∧ ¬ (65535 : Int32) < c) : nar .char c = c := by
  have q := c_i2c c
  have e : (nar .char c) = c.toUInt32.toUInt16.toUInt32.toInt32 := rfl
  rw [e]
  apply Int32.toInt_inj.mp
  rw [Int32.lt_iff_toInt_lt, Int32.lt_iff_toInt_lt] at h
  have : (0 : Int32).toInt = 0 := rfl
  have : (65535 : Int32).toInt = 65535 := rfl
  omega
/-- an instance method of a JDK class that moves nothing, by a pasted law -/
theorem Run.virtP (X : Sit Z a0 EL p l e R s m args below meth c own bytes maxL rt nm h0 ws sf T h locs cells slots) {y : MethodName} {index pc W : Nat} {Ls : Array Slot} {cls : String} {st argsL rest : List Value} {ps : List FieldType} {rr : Option FieldType} {V : Option Value → Prop}
    (bk : ∀ vm0, Z.Warmed39 (s.setVm vm0).vm → Back l R p e below (s.setVm vm0) args y 3 W (fun P b => b = (.ref a :: argsL).toArray ∧ P.U.heap = h ∧ P.cells + 0 ≤ R.cells ∧ P.slots + 0 ≤ R.slots) (fun P _ v B => ∃ L, (V v ∧ L = [] ∧ B.U.heap = h) ∧ B.locs = P.locs ++ L ∧ B.cells = P.cells + 0 ∧ B.slots = P.slots + 0))
    (E : Exa Z h a cls) (w1 : (Cond.methodLink own index y).before a0 Z = true) (wd : (Cond.declares y).before a0 Z = true) (w2 : (Cond.instanceMethod y).before a0 Z = true) (wl : (Cond.selects cls y y).before a0 Z = true) (hy : y.cls ≠ "java/lang/invoke/MethodHandle" ∧ y.cls ≠ "java/lang/invoke/VarHandle")
    (hds : parseMethodDescriptor y.desc = some ⟨ps, rr⟩) (hln : argsL.length = ps.length) (hst : st = argsL.reverse ++ .ref a :: rest) (hW : (rest.map fun v => v.category).sum ≤ W) (hsz : Ls.size = maxL) (hd : decode bytes pc = .ok (.invokevirtual index, 3)) (hc : cells ≤ R.cells) (hs : slots ≤ R.slots)
    (k : ∀ (v : Option Value) (T' : State), V v → Sit Z a0 EL p l e R s m args below meth c own bytes maxL rt nm h0 ws sf T' h locs cells slots → Run Z EL sv p e below s h0 ws Q kc ks T' (mkF m (pc + 3) Ls (v.toList ++ rest))) : Run Z EL sv p e below s h0 ws Q kc ks T (mkF m pc Ls st) := by
  obtain ⟨T', X', v, hv, sp⟩ := X.same (Q' := fun T' => ∃ v, V v ∧ Steps p.tables e below (T.setTop (mkF m pc Ls st)) (T'.setTop (mkF m (pc + 3) Ls (v.toList ++ rest)))) fun vm0 Y hZ ho => by
    obtain ⟨cq, kq, qa, qb, qc⟩ := isOf (s := s.setVm vm0) hZ X.eh E
    obtain ⟨v, _, ⟨T', L', k', n'⟩, -, Y', ⟨Lc, ⟨q1, q2, q3⟩, l1, y1, z1⟩, sp⟩ := Y.virtualBack X.ex (y := y) (z := y) ho (mv hZ w1) (mv hZ wd) (notFace_of_selects (args := #[]) (mv hZ wl)) (mv hZ wl) (mv hZ w2) hy (bk vm0 hZ) qa qc (g := mkF m pc Ls st) rfl (hsz.trans X.ml.symm) (Steps.refl _) (argsL := argsL) (rest := rest) (lenOf hds hln) hst (by show 2 * 0 + _ ≤ _; omega) (X.de hd) (fun _ _ => ⟨rfl, X.eh, hc, hs⟩)
    dsimp only [Pt.U, Pt.locs, Pt.cells, Pt.slots] at Y' l1 y1 z1 sp q1 q2 q3
    subst l1 y1 z1 q2
    simp only [List.append_nil] at Y'
    exact ⟨T', Y', q3, v, q1, sp⟩
  exact Run.on sp (k v T' hv X')
end Strs
end Jvm.Pilot.@@N@@
-- part strs
namespace Jvm.Pilot.@@N@@
open Jvm Jvm.ClassFile Sem Op Lib Jvm.Free Jvm.Stand Jvm.LawKit Jvm.RoadKit Bundle Jvm.Pilot.@@N@@.Jvm.D
theorem hwsLit {Z : State} {a0 : Array Value} (hw : ∀ d ∈ tables_1, d.before a0 Z = true) : ∀ d ∈ Bundle.stringAtoms, d.before a0 Z = true := fun d hd => hw d ((by decide +kernel : ∀ d ∈ Bundle.stringAtoms, d ∈ tables_1) d hd)
/-- 'ldc' of a String constant, whether the JVM holds it already or not -/
theorem Run.ldcS {Z : State} {a0 : Array Value} {EL : List (String × Nat)} {sv : Bool} {p : Program} {l : Launch} {e : Env} {R : Room} {s : State} {m : MethodId} {args : Array Value} {below : List Frame} {meth : Method} {c : Code} {own : String} {bytes : ByteArray} {maxL : Nat} {rt : Option FieldType} {nm : String} {h0 : Heap} {ws sf : List Addr} {T : State} {h : Heap} {locs : List Loc} {cells slots : Nat} {Q : Option Value → Heap → Prop} {kc ks : Nat} (hw : ∀ d ∈ tables_1, d.before a0 Z = true) (hN : NW = false) (X : Sit Z a0 EL p l e R s m args below meth c own bytes maxL rt nm h0 ws sf T h locs cells slots) {text : String} {cs : List Int32} {index pc n : Nat} {Ls : Array Slot} {st : List Value} (w : (Cond.stringLink own index text).before a0 Z = true) (hm : (own, index) ∈ EL)
    (ht : (∀ c ∈ text.toList, c.toNat < 256) ∧ text.toList.map (fun c => Value.int (Jvm.Lit.byteI c.toNat.toUInt16)) = (cs.map fun c => Value.int (StrChars.lo8 c))) (hcs : ∀ c ∈ cs, ¬ c < 0 ∧ ¬ (255 : Int32) < c) (hlen : cs.length ≤ 4000) (hd : decode bytes pc = .ok (.ldc index, 2)) (hn : 4 * text.toList.length ≤ n) (hbig : n ≤ 20000) (hc : cells + 2 ≤ R.cells) (hl' : slots + (n + 4) ≤ R.slots)
    (k : ∀ (a : Addr) (T' : State) (h' : Heap) (L : List Loc), Sit Z a0 EL p l e R s m args below meth c own bytes maxL rt nm h0 ws sf T' h' (locs ++ L) (cells + 2) (slots + (n + 4)) → Keep h h' [] → Str Z h' a cs → Run Z EL sv p e below s h0 ws Q kc ks T' (mkF m (pc + 2) Ls (.ref a :: st))) : Run Z EL sv p e below s h0 ws Q kc ks T (mkF m pc Ls st) := by
  obtain ⟨T', h', L', sx, X', K, a, S, sp⟩ := X.reb (k := cells + 2) (n := slots + (n + 4)) (wz := []) (Q' := fun T' h' _ _ => ∃ a, Str Z h' a cs ∧ ∀ t, Steps p.tables e below (T'.setTop (mkF m (pc + 2) Ls (.ref a :: st))) t → Steps p.tables e below (T.setTop (mkF m pc Ls st)) t) (fun x hx => nomatch hx) fun vm0 k0 Y hZ ho hS hk H hs => by
    obtain ⟨a, T', h', k1, b, kb, Y', e', E, S1, hk1, hZ1, ho1, A1, F1, F2, V1, -, -, C1, -, -, st1⟩ := ldcCH Y X.ex hZ ho w (hwsLit hw) X.eh hS hk X.ew hm H (z := Int32.ofNat cs.length) ht (n32' hlen).1 (by rw [(n32' hlen).2]; simp) (g := mkF m pc Ls st) rfl (X.de hd) hn (by omega) hc hl'
    exact ⟨T', h', [], T'.vm, k1, [], by rw [List.append_nil]; exact Y', e', extK E, Fr.nil _, hZ1, ho1, S1, hk1, C1, (fun z => by rw [hN] at z; cases z), (fun _ z => nomatch z), a, ⟨A1, b, kb, 0, _, _, F2, F1, V1, Or.inl ⟨rfl, rfl, rfl, fun c hc => (hcs c hc).2⟩, up _ hcs, hlen⟩, st1⟩
  exact Run.via sp (k a T' h' L' (X'.less fun x hx => List.mem_append_right _ hx) K S)
end Jvm.Pilot.@@N@@
-- part own
namespace Jvm.Pilot.@@N@@
open Jvm Jvm.ClassFile Sem Op Lib Jvm.Free Jvm.Stand Jvm.LawKit Jvm.RoadKit Bundle Jvm.Pilot.@@N@@.Jvm.D
theorem setsOf {s : State} {args : Array Value} (hsets : ∀ d ∈ jdkStatics_1, d.before args s = true) : Sets s := by
  have n5 := not_v (Cond.before_iff.mp (hsets _ (List.mem_of_getElem? (i := 2) rfl)))
  obtain ⟨i1, e1⟩ := is_v (Cond.before_iff.mp (hsets _ (List.mem_of_getElem? (i := 1) rfl)))
  obtain ⟨v3, e3, r3⟩ := isR_v (Cond.before_iff.mp (hsets _ (List.mem_of_getElem? (i := 8) rfl)))
  exact ⟨i1, v3, Sta.start e1 (Or.inl (hsets _ (List.mem_of_getElem? (i := 0) rfl))), gotF (Cond.eq_ints e1 (Term.int_eval (0))) n5, Sta.start e3 (Or.inl (hsets _ (List.mem_of_getElem? (i := 7) rfl))), r3⟩
theorem ls0 {P : Int32 → Prop} : ∀ c ∈ ([] : List Int32), P c := fun _ q => nomatch q
theorem lsS {P : Int32 → Prop} {y : Int32} {L : List Int32} (q : P y) (r : ∀ c ∈ L, P c) : ∀ c ∈ y :: L, P c := fun x z => (List.mem_cons.mp z).elim (fun u => u ▸ q) (r x)
theorem nar_lat {c : Int32} (h : ¬ c < 0 ∧ ¬ (255 : Int32) < c) : nar .char c = c := nar_char ⟨h.1, fun q => h.2 (by rw [Int32.lt_iff_toInt_lt] at q ⊢; have e1 : (65535 : Int32).toInt = 65535 := rfl; have e2 : (255 : Int32).toInt = 255 := rfl; omega)⟩

theorem i32lt {a b : Nat} (ha : a ≤ 100000) (hb : b ≤ 100000) : Int32.ofNat a < Int32.ofNat b ↔ a < b := by
  have e1 : (Int32.ofNat a).toInt = a := Int32.toInt_ofNat_small (by omega)
  have e2 : (Int32.ofNat b).toInt = b := Int32.toInt_ofNat_small (by omega)
  rw [Int32.lt_iff_toInt_lt, e1, e2]; omega
theorem i32eq {a b : Nat} (ha : a ≤ 100000) (hb : b ≤ 100000) : Int32.ofNat a = Int32.ofNat b ↔ a = b := by
  have e1 : (Int32.ofNat a).toInt = a := Int32.toInt_ofNat_small (by omega)
  have e2 : (Int32.ofNat b).toInt = b := Int32.toInt_ofNat_small (by omega)
  rw [← Int32.toInt_inj, e1, e2]; omega
theorem i32of {x : Int32} {n : Nat} (h : x.toInt = n) (hn : n ≤ 100000) : x = Int32.ofNat n := by
  apply Int32.toInt_inj.mp; rw [h, Int32.toInt_ofNat_small (by omega)]
theorem i32n {n : Nat} (hn : n ≤ 100000) : (Int32.ofNat n).toInt = n := Int32.toInt_ofNat_small (by omega)
theorem i32add {a b : Nat} (h : a + b ≤ 100000) : Int32.ofNat a + Int32.ofNat b = Int32.ofNat (a + b) := by
  apply i32of _ h
  have q := c_iadd (Int32.ofNat a) (Int32.ofNat b); have r := rng32 (Int32.ofNat a + Int32.ofNat b)
  rw [i32n (by omega), i32n (by omega)] at q; omega
theorem i32succ {a : Nat} (h : a < 100000) : Int32.ofNat a + (1 : Int32) = Int32.ofNat (a + 1) := i32add (b := 1) h
theorem shl1 {n : Nat} (h : n ≤ 10000) : Int32.ofNat n <<< ((1 : Int32) &&& 31) = Int32.ofNat (2 * n) := by
  apply i32of _ (by omega)
  have q := c_ishl (Int32.ofNat n) 1 1 (by decide); have r := rng32 (Int32.ofNat n <<< ((1 : Int32) &&& 31))
  rw [i32n (by omega)] at q; omega
/-- low byte, high byte, .. -/
def wb : List Int32 → List Int32
  | [] => []
  | c :: r => StrChars.lo8 c :: StrChars.hi8 c :: wb r
theorem wb_map : ∀ cs : List Int32, (wb cs).map Value.int = StrChars.Road.wideBytes cs
  | [] => rfl
  | c :: r => by simp only [wb, List.map_cons, StrChars.Road.wideBytes, wb_map r]
theorem wb_len : ∀ cs : List Int32, (wb cs).length = 2 * cs.length
  | [] => rfl
  | c :: r => by simp only [wb, List.length_cons, wb_len r]; omega
theorem wb_app : ∀ a b : List Int32, wb (a ++ b) = wb a ++ wb b
  | [], b => rfl
  | c :: r, b => by simp only [List.cons_append, wb, wb_app r b]
theorem wb_lo : ∀ (cs : List Int32) (j : Nat), j < cs.length → (wb cs).getD (2 * j) 0 = StrChars.lo8 (cs.getD j 0)
  | [], j, h => absurd h (Nat.not_lt_zero j)
  | c :: r, 0, _ => rfl
  | c :: r, j + 1, h => by
    have := wb_lo r j (by simpa using h)
    rw [show 2 * (j + 1) = 2 * j + 1 + 1 from by omega]
    simpa [wb] using this
theorem wb_hi : ∀ (cs : List Int32) (j : Nat), j < cs.length → (wb cs).getD (2 * j + 1) 0 = StrChars.hi8 (cs.getD j 0)
  | [], j, h => absurd h (Nat.not_lt_zero j)
  | c :: r, 0, _ => rfl
  | c :: r, j + 1, h => by
    have := wb_hi r j (by simpa using h)
    rw [show 2 * (j + 1) + 1 = 2 * j + 1 + 1 + 1 from by omega]
    simpa [wb] using this
theorem wb_set (cs : List Int32) (i : Nat) (h : i < cs.length) : ((wb (cs.take i) ++ List.replicate (2 * (cs.length - i)) 0).set (2 * i) (StrChars.lo8 (cs.getD i 0))).set (2 * i + 1) (StrChars.hi8 (cs.getD i 0)) = wb (cs.take (i + 1)) ++ List.replicate (2 * (cs.length - (i + 1))) 0 := by
  have e1 : (wb (cs.take i)).length = 2 * i := by rw [wb_len, List.length_take]; omega
  have e2 : 2 * (cs.length - i) = 2 * (cs.length - (i + 1)) + 1 + 1 := by omega
  have e3 : cs.take (i + 1) = cs.take i ++ [cs.getD i 0] := by
    rw [List.take_add_one, List.getD_eq_getElem?_getD, List.getElem?_eq_getElem h]; rfl
  rw [e3, wb_app, e2, List.replicate_succ, List.replicate_succ, List.set_append_right _ _ (by omega), List.set_append_right _ _ (by omega), e1, Nat.sub_self, show 2 * i + 1 - 2 * i = 1 from by omega]
  simp [wb]
theorem nar_lo8 (x : Int32) : nar .byte (StrChars.lo8 x) = StrChars.lo8 x := by
  apply Int32.toInt_inj.mp
  obtain ⟨a1, a2, a3⟩ := c_i2b x
  obtain ⟨b1, b2, b3⟩ := c_i2b (StrChars.lo8 x)
  have e : StrChars.lo8 x = x.toInt8.toInt32 := rfl
  have e' : nar .byte (StrChars.lo8 x) = (StrChars.lo8 x).toInt8.toInt32 := rfl
  rw [e']; rw [e] at b1 b2 b3 ⊢; omega
/-- the first place of a char above 255 -/
def big (cs : List Int32) (k : Nat) : Prop := k < cs.length ∧ (255 : Int32) < cs.getD k 0 ∧ ∀ j, j < k → ¬ (255 : Int32) < cs.getD j 0
theorem big_of : ∀ (cs : List Int32), ¬ (∀ c ∈ cs, ¬ (255 : Int32) < c) → ∃ k, big cs k
  | [], h => absurd (fun _ q => nomatch q) h
  | c :: r, h => by
    by_cases q : (255 : Int32) < c
    · exact ⟨0, by simp, q, fun j hj => absurd hj (Nat.not_lt_zero j)⟩
    · obtain ⟨k, h1, h2, h3⟩ := big_of r fun z => h fun y hy => (List.mem_cons.mp hy).elim (fun e => e ▸ q) (z y)
      refine ⟨k + 1, by simpa using h1, by simpa using h2, fun j hj => ?_⟩
      cases j with
      | zero => exact q
      | succ j => simpa using h3 j (by omega)
theorem mem_getD {cs : List Int32} {i : Nat} (h : i < cs.length) : cs.getD i 0 ∈ cs := by rw [List.getD_eq_getElem?_getD, List.getElem?_eq_getElem h]; exact List.getElem_mem h
/-- the JDK's statics of StringUTF16 -/
def Sets16 (Z : State) : Prop := Sta Z Z.heap "java/lang/StringUTF16" "$assertionsDisabled" "Z" (.int 1) ∧ Sta Z Z.heap "java/lang/StringUTF16" "HI_BYTE_SHIFT" "I" (.int 0) ∧ Sta Z Z.heap "java/lang/StringUTF16" "LO_BYTE_SHIFT" "I" (.int 8)
theorem cal1 {n : Nat} (h1 : 0 < n) (h : n ≤ 4) : nar .byte (((Int32.ofNat n - Int32.ofNat (2 * n)).toUInt32 >>> ((31 : Int32) &&& 31).toUInt32).toInt32.toInt8.toInt32) = 1 := by
  have t : ∀ k : Fin 5, 0 < k.val → nar .byte (((Int32.ofNat k.val - Int32.ofNat (2 * k.val)).toUInt32 >>> ((31 : Int32) &&& 31).toUInt32).toInt32.toInt8.toInt32) = 1 := by decide +kernel
  exact t ⟨n, by omega⟩ h1
theorem Str.op {Z : State} {h : Heap} {a : Addr} {cs : List Int32} (S : Str Z h a cs) (hn : cs.length ≤ 2000) : Exa Z h a "java/lang/String" ∧ ∃ (t : Addr) (cd : Int32) (bs : List Int32), Fld Z h a "java/lang/String" "value" "[B" (.ref t) ∧ Fld Z h a "java/lang/String" "coder" "B" (.int cd) ∧ Arc .byte Z h t bs ∧ ((cd = 0 ∧ bs = cs.map StrChars.lo8 ∧ ∀ c ∈ cs, ¬ (255 : Int32) < c) ∨ (cd = 1 ∧ bs = wb cs ∧ ∃ c ∈ cs, (255 : Int32) < c)) ∧ ∀ c ∈ cs, ¬ c < 0 ∧ ¬ (65535 : Int32) < c := by
  obtain ⟨E, t, kb, cd, N2, vs, V, C, A, r1, r2, r3⟩ := S
  rcases r1 with ⟨rfl, rfl, rfl, q⟩ | ⟨rfl, rfl, rfl, q⟩
  · refine ⟨E, t, 0, cs.map StrChars.lo8, V, C, ⟨kb, ?_, by simpa using r3⟩, Or.inl ⟨rfl, rfl, q⟩, r2⟩
    simpa [List.map_map, Function.comp_def] using A
  · refine ⟨E, t, 1, wb cs, V, C, ⟨kb, ?_, by rw [wb_len]; omega⟩, Or.inr ⟨rfl, rfl, q⟩, r2⟩
    rw [wb_len, wb_map]; exact A
theorem shr1' {n : Nat} (h : n ≤ 2000) : Int32.ofNat (2 * n) >>> ((1 : Int32) &&& 31) = Int32.ofNat n := by
  apply i32of _ (by omega)
  have q := c_ishr (Int32.ofNat (2 * n)) 1 1 (by decide)
  rw [q, i32n (by omega)]; omega
theorem shr0' (x : Int32) : x >>> ((0 : Int32) &&& 31) = x := StrChars.shr0 x
theorem lat_back {c : Int32} (h0 : ¬ c < 0) (h1 : ¬ (255 : Int32) < c) : (StrChars.lo8 c &&& (255 : Int32)).toUInt32.toUInt16.toUInt32.toInt32 = c := by
  have e : StrChars.lo8 c &&& (255 : Int32) = c := by
    apply Int32.toInt_inj.mp
    have q := c_mask (StrChars.lo8 c) 255 8 (by decide) (by decide)
    obtain ⟨a1, a2, a3⟩ := c_i2b c
    have e1 : StrChars.lo8 c = c.toInt8.toInt32 := rfl
    rw [Int32.lt_iff_toInt_lt] at h0 h1
    have : (0 : Int32).toInt = 0 := rfl; have : (255 : Int32).toInt = 255 := rfl
    rw [e1] at q ⊢; omega
  rw [e]
  exact nar_lat ⟨h0, h1⟩
theorem map_getD (cs : List Int32) (i : Nat) (hi : i < cs.length) : (cs.map StrChars.lo8).getD i 0 = StrChars.lo8 (cs.getD i 0) := by
  simp [List.getD_eq_getElem?_getD, List.getElem?_eq_getElem hi]
theorem setsOf16 {s : State} {args : Array Value} (hsets : ∀ d ∈ jdkStatics_1, d.before args s = true) : Sets16 s := by
  have f : ∀ {C n d : String} {k : Int32}, (Jvm.Cond.initializedFor C n d).before args s = true → (Jvm.Cond.eq (Jvm.Term.static C n d) (Jvm.Term.int k)).before args s = true → Sta s s.heap C n d (.int k) := by
    intro C n d k h1 h2
    obtain ⟨x, y, e1, e2, -, q⟩ := cmp_v (Or.inl (Cond.before_iff.mp h2))
    have e3 : y = .int k := by simpa [Term.eval] using e2.symm
    subst e3
    obtain ⟨z, rfl⟩ := q
    have q2 := gotT (Cond.eq_ints e1 (Term.int_eval k)) (Cond.before_iff.mp h2)
    subst q2
    exact Sta.start e1 (Or.inl h1)
  exact ⟨f (hsets _ (List.mem_of_getElem? (i := 11) rfl)) (hsets _ (List.mem_of_getElem? (i := 12) rfl)), f (hsets _ (List.mem_of_getElem? (i := 14) rfl)) (hsets _ (List.mem_of_getElem? (i := 15) rfl)), f (hsets _ (List.mem_of_getElem? (i := 17) rfl)) (hsets _ (List.mem_of_getElem? (i := 18) rfl))⟩
def hiV (ch : Int32) : Int32 := if ¬ ch < 55296 ∧ ¬ (56319 : Int32) < ch then 1 else 0
def loV (ch : Int32) : Int32 := if ¬ ch < 56320 ∧ ¬ (57343 : Int32) < ch then 1 else 0
theorem lt_pred {x a b : Int32} (h : b.toInt + 1 = a.toInt) : x < a ↔ ¬ b < x := by rw [Int32.lt_iff_toInt_lt, Int32.lt_iff_toInt_lt]; omega
theorem i32pred {a : Nat} (h0 : 0 < a) (h : a ≤ 100000) : Int32.ofNat a - (1 : Int32) = Int32.ofNat (a - 1) := by
  apply i32of _ (by omega)
  have q := c_isub (Int32.ofNat a) 1; have r := rng32 (Int32.ofNat a - 1)
  rw [i32n (by omega)] at q; have : (1 : Int32).toInt = 1 := rfl; omega
/-- what isLoneSurrogate says -/
def lone (cs : List Int32) (i : Nat) : Int32 :=
  if hiV (cs.getD i 0) = 0 then (if loV (cs.getD i 0) = 0 then 0 else if i = 0 then 1 else if hiV (cs.getD (i - 1) 0) = 0 then 1 else 0)
  else if i + 1 = cs.length then 1 else if loV (cs.getD (i + 1) 0) = 0 then 1 else 0
def surV (ch : Int32) : Int32 := if hiV ch = 0 ∧ loV ch = 0 then 0 else 1
def pairV (a b : Int32) : Int32 := if hiV a = 0 ∨ loV b = 0 then 0 else 1
theorem pair_sur {a b : Int32} (h : ¬ pairV a b = 0) : ¬ surV a = 0 ∧ ¬ surV b = 0 := by
  unfold pairV at h
  have q : ¬ (hiV a = 0 ∨ loV b = 0) := fun z => h (if_pos z)
  refine ⟨fun z => ?_, fun z => ?_⟩
  · unfold surV at z
    rw [if_neg (fun y => q (Or.inl y.1))] at z; exact absurd z (by decide)
  · unfold surV at z
    rw [if_neg (fun y => q (Or.inr y.2))] at z; exact absurd z (by decide)
theorem pair_no0 {a b : Int32} (h : surV a = 0) : pairV a b = 0 := Decidable.byContradiction fun z => (pair_sur z).1 h
theorem pair_no1 {a b : Int32} (h : surV b = 0) : pairV a b = 0 := Decidable.byContradiction fun z => (pair_sur z).2 h
/-- what isUnicode says -/
def uniV (cs : List Int32) : Int32 := if ∀ i, i < cs.length → lone cs i = 0 then 1 else 0
theorem excl (ch : Int32) : hiV ch = 0 ∨ loV ch = 0 := by
  unfold hiV loV
  by_cases h1 : ¬ ch < 55296 ∧ ¬ (56319 : Int32) < ch
  · right; rw [if_neg]; intro h2
    have h1 := h1.2; have h2 := h2.1
    rw [Int32.lt_iff_toInt_lt] at h1 h2
    have : (56319 : Int32).toInt = 56319 := rfl; have : (56320 : Int32).toInt = 56320 := rfl; omega
  · left; rw [if_neg h1]
theorem all1 {P : Nat → Prop} : (∀ i, i < 1 → P i) ↔ P 0 := ⟨fun h => h 0 (by decide), fun h i hi => by (obtain rfl : i = 0 := (by omega)); exact h⟩
theorem all2 {P : Nat → Prop} : (∀ i, i < 2 → P i) ↔ P 0 ∧ P 1 := ⟨fun h => ⟨h 0 (by decide), h 1 (by decide)⟩, fun h i hi => by
  match i, hi with
  | 0, _ => exact h.1
  | 1, _ => exact h.2⟩
theorem all3 {P : Nat → Prop} : (∀ i, i < 3 → P i) ↔ P 0 ∧ P 1 ∧ P 2 := ⟨fun h => ⟨h 0 (by decide), h 1 (by decide), h 2 (by decide)⟩, fun h i hi => by
  match i, hi with
  | 0, _ => exact h.1
  | 1, _ => exact h.2.1
  | 2, _ => exact h.2.2⟩
theorem uni0 : uniV ([] : List Int32) = 1 := if_pos fun i hi => absurd hi (Nat.not_lt_zero i)
theorem uni1 (a : Int32) : uniV [a] = if surV a = 0 then 1 else 0 := by
  unfold uniV
  simp only [List.length_cons, List.length_nil, Nat.zero_add, all1]
  congr 1
  simp only [lone, surV, List.getD_cons_zero, List.length_cons, List.length_nil]
  have xa := excl a
  by_cases a1 : hiV a = 0 <;> by_cases a2 : loV a = 0 <;> simp_all
theorem uni2 (a b : Int32) : uniV [a, b] = if ¬ pairV a b = 0 ∨ (surV a = 0 ∧ surV b = 0) then 1 else 0 := by
  unfold uniV
  simp only [List.length_cons, List.length_nil, Nat.zero_add, Nat.reduceAdd, all2]
  congr 1
  simp only [lone, surV, pairV, List.getD_cons_zero, List.getD_cons_succ, List.length_cons, List.length_nil]
  have xa := excl a; have xb := excl b
  by_cases a1 : hiV a = 0 <;> by_cases a2 : loV a = 0 <;> by_cases b1 : hiV b = 0 <;> by_cases b2 : loV b = 0 <;> simp_all
theorem uni3 (a b c : Int32) : uniV [a, b, c] = if (¬ pairV a b = 0 ∧ surV c = 0) ∨ (surV a = 0 ∧ ¬ pairV b c = 0) ∨ (surV a = 0 ∧ surV b = 0 ∧ surV c = 0) then 1 else 0 := by
  unfold uniV
  simp only [List.length_cons, List.length_nil, Nat.zero_add, Nat.reduceAdd, all3]
  congr 1
  simp only [lone, surV, pairV, List.getD_cons_zero, List.getD_cons_succ, List.length_cons, List.length_nil]
  have xa := excl a; have xb := excl b; have xc := excl c
  by_cases a1 : hiV a = 0 <;> by_cases a2 : loV a = 0 <;> by_cases b1 : hiV b = 0 <;> by_cases b2 : loV b = 0 <;> by_cases c1 : hiV c = 0 <;> by_cases c2 : loV c = 0 <;> simp_all
theorem rem_4 (x : Int32) : (x &&& 2147483647) % 4 = 0 ∨ (x &&& 2147483647) % 4 = 1 ∨ (x &&& 2147483647) % 4 = 2 ∨ (x &&& 2147483647) % 4 = 3 := by
  have q1 := c_and x 2147483647 (by decide)
  have q2 := (c_irem (x &&& 2147483647) 4 4 rfl).1 q1.1
  have q3 := Int.emod_lt_of_pos (x &&& 2147483647).toInt (show (0 : Int) < 4 by decide); have q4 := Int.emod_nonneg (x &&& 2147483647).toInt (show (4 : Int) ≠ 0 by decide)
  simp only [← Int32.toInt_inj]
  have : (0 : Int32).toInt = 0 := rfl; have : (1 : Int32).toInt = 1 := rfl; have : (2 : Int32).toInt = 2 := rfl; have : (3 : Int32).toInt = 3 := rfl
  omega
theorem pd___B : parseMethodDescriptor "()B" = some ⟨[], some .byte⟩ := by decide +kernel
theorem pd___I : parseMethodDescriptor "()I" = some ⟨[], some .int⟩ := by decide +kernel
theorem pd___Z : parseMethodDescriptor "()Z" = some ⟨[], some .boolean⟩ := by decide +kernel
theorem pd__C_Z : parseMethodDescriptor "(C)Z" = some ⟨[.char], some .boolean⟩ := by decide +kernel
theorem pd__CC_Z : parseMethodDescriptor "(CC)Z" = some ⟨[.char, .char], some .boolean⟩ := by decide +kernel
theorem pd__I_C : parseMethodDescriptor "(I)C" = some ⟨[.int], some .char⟩ := by decide +kernel
theorem pd__I_I : parseMethodDescriptor "(I)I" = some ⟨[.int], some .int⟩ := by decide +kernel
theorem pd__I__B : parseMethodDescriptor "(I)[B" = some ⟨[.int], some (.array .byte)⟩ := by decide +kernel
theorem pd__II_V : parseMethodDescriptor "(II)V" = some ⟨[.int, .int], none⟩ := by decide +kernel
theorem pd__IILjava_util_function_BiFunction__I : parseMethodDescriptor "(IILjava/util/function/BiFunction;)I" = some ⟨[.int, .int, (.object "java/util/function/BiFunction")], some .int⟩ := by decide +kernel
theorem pd__I_B_V : parseMethodDescriptor "(I[B)V" = some ⟨[.int, (.array .byte)], none⟩ := by decide +kernel
theorem pd__Ljava_lang_CharSequence_I_Z : parseMethodDescriptor "(Ljava/lang/CharSequence;I)Z" = some ⟨[(.object "java/lang/CharSequence"), .int], some .boolean⟩ := by decide +kernel
theorem pd__Ljava_lang_String__Z : parseMethodDescriptor "(Ljava/lang/String;)Z" = some ⟨[(.object "java/lang/String")], some .boolean⟩ := by decide +kernel
theorem pd___B_I : parseMethodDescriptor "([B)I" = some ⟨[(.array .byte)], some .int⟩ := by decide +kernel
theorem pd___BI_B : parseMethodDescriptor "([BI)B" = some ⟨[(.array .byte), .int], some .byte⟩ := by decide +kernel
theorem pd___BI_C : parseMethodDescriptor "([BI)C" = some ⟨[(.array .byte), .int], some .char⟩ := by decide +kernel
theorem pd___BII_V : parseMethodDescriptor "([BII)V" = some ⟨[(.array .byte), .int, .int], none⟩ := by decide +kernel
theorem pd___C_V : parseMethodDescriptor "([C)V" = some ⟨[(.array .char)], none⟩ := by decide +kernel
theorem pd___CII__B : parseMethodDescriptor "([CII)[B" = some ⟨[(.array .char), .int, .int], some (.array .byte)⟩ := by decide +kernel
theorem pd___CIILjava_lang_Void__V : parseMethodDescriptor "([CIILjava/lang/Void;)V" = some ⟨[(.array .char), .int, .int, (.object "java/lang/Void")], none⟩ := by decide +kernel
theorem pd___CI_BII_I : parseMethodDescriptor "([CI[BII)I" = some ⟨[(.array .char), .int, (.array .byte), .int, .int], some .int⟩ := by decide +kernel
-- part con_n4e
theorem n4d_0 : decode jdk_42_method_149_code 0 = .ok (.aload_n 0, 1) := by decide +kernel
theorem n4d_1 : decode jdk_42_method_149_code 1 = .ok (.invokespecial 1, 3) := by decide +kernel
theorem n4d_4 : decode jdk_42_method_149_code 4 = .ok (.iload_n 3, 1) := by decide +kernel
theorem n4d_5 : decode jdk_42_method_149_code 5 = .ok (.ifCond .ne 22, 3) := by decide +kernel
theorem n4d_8 : decode jdk_42_method_149_code 8 = .ok (.aload_n 0, 1) := by decide +kernel
theorem n4d_9 : decode jdk_42_method_149_code 9 = .ok (.ldc 7, 2) := by decide +kernel
theorem n4d_11 : decode jdk_42_method_149_code 11 = .ok (.getfield 9, 3) := by decide +kernel
theorem n4d_14 : decode jdk_42_method_149_code 14 = .ok (.putfield 9, 3) := by decide +kernel
theorem n4d_17 : decode jdk_42_method_149_code 17 = .ok (.aload_n 0, 1) := by decide +kernel
theorem n4d_18 : decode jdk_42_method_149_code 18 = .ok (.ldc 7, 2) := by decide +kernel
theorem n4d_20 : decode jdk_42_method_149_code 20 = .ok (.getfield 15, 3) := by decide +kernel
theorem n4d_23 : decode jdk_42_method_149_code 23 = .ok (.putfield 15, 3) := by decide +kernel
theorem n4d_26 : decode jdk_42_method_149_code 26 = .ok (.return_, 1) := by decide +kernel
set_option maxRecDepth 65536 in
set_option maxHeartbeats 40000000 in
theorem con_n4e (l : Launch) {Z : State} {a0 : Array Value} {EL : List (String × Nat)} {h0 : Heap} (hw : ∀ d ∈ tables_1, d.before a0 Z = true) (hN : NW = false) (hm : ("java/lang/String", 7) ∈ EL) {xa ba : Addr} (G : Raw Z h0 xa) (hz : Z.heap.size ≤ xa) (O : Ext Z.heap h0) : Con l Z a0 EL false (⟨"java/lang/String", "<init>", "([CIILjava/lang/Void;)V"⟩ : MethodName) jdk_42_method_149_code 6 none ({ frames := 1, cells := 4, slots := 8, locals := 16 } : Room) [xa] [xa] #[(.ref xa), (.ref ba), (.int (0 : Int32)), (.int (0 : Int32)), .null] h0 (fun v h => v = none ∧ Str Z h xa []) := by
  refine Con.enter (plainFor_of_name (by first | (simp [plainName, overriddenIn]; done) | decide +kernel)) O ?_
  intro p e s m below meth c T0 X0
  rw [show entryFrame m #[(.ref xa), (.ref ba), (.int (0 : Int32)), (.int (0 : Int32)), .null] 6 = (mkF m 0 #[.val (.ref xa), .val (.ref ba), .val (.int (0 : Int32)), .val (.int (0 : Int32)), .val .null, .unset] []) from by first | (simp [entryFrame, mkF, argsToLocals, Value.category]; done) | rfl]
  refine Run.via (fun _ => XS.aloadN X0.at X0.ex rfl (X0.de n4d_0) rfl rfl) ?_
  show Run _ _ _ _ _ _ _ _ _ _ _ _ T0 (mkF m 1 #[.val (.ref xa), .val (.ref ba), .val (.int (0 : Int32)), .val (.int (0 : Int32)), .val .null, .unset] [(.ref xa)])
  refine Run.initO X0 (wd hw 24 rfl) (wd hw 25 rfl) (wd hw 26 rfl) rfl n4d_1 (by decide) (Nat.le_of_ble_eq_true rfl) ?_
  intro T101 X101
  show Run _ _ _ _ _ _ _ _ _ _ _ _ T101 (mkF m 4 #[.val (.ref xa), .val (.ref ba), .val (.int (0 : Int32)), .val (.int (0 : Int32)), .val .null, .unset] [])
  refine Run.via (fun _ => XS.iloadN X101.at X101.ex rfl (X101.de n4d_4) rfl) ?_
  show Run _ _ _ _ _ _ _ _ _ _ _ _ T101 (mkF m 5 #[.val (.ref xa), .val (.ref ba), .val (.int (0 : Int32)), .val (.int (0 : Int32)), .val .null, .unset] [(.int (0 : Int32))])
  refine Run.via (fun _ => XS.ifNo X101.at X101.ex rfl (X101.de n4d_5) rfl ((if0 _ _).trans (teq (by decide : ((0 : Int32) = (0 : Int32)))).2)) ?_
  show Run _ _ _ _ _ _ _ _ _ _ _ _ T101 (mkF m 8 #[.val (.ref xa), .val (.ref ba), .val (.int (0 : Int32)), .val (.int (0 : Int32)), .val .null, .unset] [])
  refine Run.via (fun _ => XS.aloadN X101.at X101.ex rfl (X101.de n4d_8) rfl rfl) ?_
  show Run _ _ _ _ _ _ _ _ _ _ _ _ T101 (mkF m 9 #[.val (.ref xa), .val (.ref ba), .val (.int (0 : Int32)), .val (.int (0 : Int32)), .val .null, .unset] [(.ref xa)])
  refine Run.ldcS hw hN X101 (cs := []) (n := 0) (wd hw 137 rfl) hm (by decide) (by decide) (by decide) n4d_9 (by decide) (by decide) (Nat.le_of_ble_eq_true rfl) (Nat.le_of_ble_eq_true rfl) ?_
  intro a102 T102 h102 L102 X102 K102 S102
  show Run _ _ _ _ _ _ _ _ _ _ _ _ T102 (mkF m 11 #[.val (.ref xa), .val (.ref ba), .val (.int (0 : Int32)), .val (.int (0 : Int32)), .val .null, .unset] [(.ref a102), (.ref xa)])
  have hZ1 : Z.heap.size ≤ xa := hz
  have G := G.keep K102 nin0
  obtain ⟨EL1, t1, kb1, cd1, N1, vs1, V1, C1, A1, R1, -⟩ := id S102
  refine Run.getf X102 (wd hw 60 rfl) Via.refl V1 n4d_11 ?_
  intro T103 X103
  show Run _ _ _ _ _ _ _ _ _ _ _ _ T103 (mkF m 14 #[.val (.ref xa), .val (.ref ba), .val (.int (0 : Int32)), .val (.int (0 : Int32)), .val .null, .unset] [(.ref t1), (.ref xa)])
  refine Run.putf X103 (wd hw 60 rfl) Via.refl G.2.1 G.1 (Or.inr ⟨(wd hw 61 rfl), rfl, rfl⟩) (wd hw 15 rfl) (ty := (.array .byte)) (v' := (.ref t1)) (by decide) rfl rfl (Or.inl (List.mem_singleton.mpr rfl)) hz (Or.inr (by simp)) n4d_14 ?_
  intro T104 h104 L104 X104 K104 W104 F104 E104
  show Run _ _ _ _ _ _ _ _ _ _ _ _ T104 (mkF m 17 #[.val (.ref xa), .val (.ref ba), .val (.int (0 : Int32)), .val (.int (0 : Int32)), .val .null, .unset] [])
  have C0 := (G.2.2.other W104 (Or.inr (slot_ne (Or.inr (wd hw 59 rfl)) (Or.inr (wd hw 61 rfl)) (by decide) (t := .byte) (t' := (.array .byte)) (by decide) (by decide))))
  have A1 := A1.keep K104 (ninS (Ne.symm (G.1.neArv A1 (wd hw 15 rfl))) nin0)
  refine Run.via (fun _ => XS.aloadN X104.at X104.ex rfl (X104.de n4d_17) rfl rfl) ?_
  show Run _ _ _ _ _ _ _ _ _ _ _ _ T104 (mkF m 18 #[.val (.ref xa), .val (.ref ba), .val (.int (0 : Int32)), .val (.int (0 : Int32)), .val .null, .unset] [(.ref xa)])
  refine Run.ldcS hw hN X104 (cs := []) (n := 0) (wd hw 137 rfl) hm (by decide) (by decide) (by decide) n4d_18 (by decide) (by decide) (Nat.le_of_ble_eq_true rfl) (Nat.le_of_ble_eq_true rfl) ?_
  intro a105 T105 h105 L105 X105 K105 S105
  show Run _ _ _ _ _ _ _ _ _ _ _ _ T105 (mkF m 20 #[.val (.ref xa), .val (.ref ba), .val (.int (0 : Int32)), .val (.int (0 : Int32)), .val .null, .unset] [(.ref a105), (.ref xa)])
  have C0 := C0.keep K105 nin0
  have F1 := F104.keep K105 nin0
  have E1 := E104.keep K105
  have A1 := A1.keep K105 nin0
  obtain ⟨EL2, t2, kb2, cd2, N2, vs2, V2, C2, A2, R2, -⟩ := id S105
  obtain ⟨rfl, rfl, rfl, -⟩ : cd1 = 0 ∧ N1 = 0 ∧ vs1 = [] ∧ True := by
    obtain ⟨z1, z2, z3, -⟩ | ⟨-, -, -, c, hc, -⟩ := R1
    · exact ⟨z1, z2, z3, trivial⟩
    · cases hc
  obtain rfl : cd2 = 0 := by
    obtain ⟨z1, -⟩ | ⟨-, -, -, c, hc, -⟩ := R2
    · exact z1
    · cases hc
  refine Run.getf X105 (wd hw 58 rfl) Via.refl C2 n4d_20 ?_
  intro T106 X106
  show Run _ _ _ _ _ _ _ _ _ _ _ _ T106 (mkF m 23 #[.val (.ref xa), .val (.ref ba), .val (.int (0 : Int32)), .val (.int (0 : Int32)), .val .null, .unset] [(.int (0 : Int32)), (.ref xa)])
  refine Run.putf X106 (wd hw 58 rfl) Via.refl C0 E1 (Or.inr ⟨(wd hw 59 rfl), rfl, rfl⟩) (wd hw 15 rfl) (ty := .byte) (v' := (.int (0 : Int32))) (by decide) rfl rfl (Or.inl (List.mem_singleton.mpr rfl)) hz (Or.inr (by simp)) n4d_23 ?_
  intro T107 h107 L107 X107 K107 W107 F107 E107
  show Run _ _ _ _ _ _ _ _ _ _ _ _ T107 (mkF m 26 #[.val (.ref xa), .val (.ref ba), .val (.int (0 : Int32)), .val (.int (0 : Int32)), .val .null, .unset] [])
  have F1 := (F1.other W107 (Or.inr (slot_ne (Or.inr (wd hw 61 rfl)) (Or.inr (wd hw 59 rfl)) (by decide) (t := (.array .byte)) (t' := .byte) (by decide) (by decide))))
  have A1 := A1.keep K107 (ninS (Ne.symm (E1.neArv A1 (wd hw 15 rfl))) nin0)
  exact Run.retV X107 rfl n4d_26 (Nat.le_of_ble_eq_true rfl) (Nat.le_of_ble_eq_true rfl) (⟨rfl, E107, t1, kb1, 0, 0, [], F1, F107, A1, Or.inl ⟨rfl, rfl, rfl, ls0⟩, ls0, Nat.zero_le _⟩)
-- part con_n1e
theorem n1d_0 : decode jdk_42_method_3_code 0 = .ok (.aload_n 0, 1) := by decide +kernel
theorem n1d_1 : decode jdk_42_method_3_code 1 = .ok (.aload_n 1, 1) := by decide +kernel
theorem n1d_2 : decode jdk_42_method_3_code 2 = .ok (.iconst 0, 1) := by decide +kernel
theorem n1d_3 : decode jdk_42_method_3_code 3 = .ok (.aload_n 1, 1) := by decide +kernel
theorem n1d_4 : decode jdk_42_method_3_code 4 = .ok (.arraylength, 1) := by decide +kernel
theorem n1d_5 : decode jdk_42_method_3_code 5 = .ok (.aconst_null, 1) := by decide +kernel
theorem n1d_6 : decode jdk_42_method_3_code 6 = .ok (.invokespecial 27, 3) := by decide +kernel
theorem n1d_9 : decode jdk_42_method_3_code 9 = .ok (.return_, 1) := by decide +kernel
set_option maxRecDepth 65536 in
set_option maxHeartbeats 40000000 in
theorem con_n1e (l : Launch) {Z : State} {a0 : Array Value} {EL : List (String × Nat)} {h0 : Heap} (hw : ∀ d ∈ tables_1, d.before a0 Z = true) (hN : NW = false) (hm : ("java/lang/String", 7) ∈ EL) {xa ba : Addr} (G : Raw Z h0 xa) (A : Arc .char Z h0 ba []) (hz : Z.heap.size ≤ xa) (O : Ext Z.heap h0) : Con l Z a0 EL false (⟨"java/lang/String", "<init>", "([C)V"⟩ : MethodName) jdk_42_method_3_code 2 none ({ frames := 2, cells := 4, slots := 8, locals := 36 } : Room) [xa] [xa] #[(.ref xa), (.ref ba)] h0 (fun v h => v = none ∧ Str Z h xa []) := by
  refine Con.enter (plainFor_of_name (by first | (simp [plainName, overriddenIn]; done) | decide +kernel)) O ?_
  intro p e s m below meth c T0 X0
  rw [show entryFrame m #[(.ref xa), (.ref ba)] 2 = (mkF m 0 #[.val (.ref xa), .val (.ref ba)] []) from by first | (simp [entryFrame, mkF, argsToLocals, Value.category]; done) | rfl]
  refine Run.via (fun _ => XS.aloadN X0.at X0.ex rfl (X0.de n1d_0) rfl rfl) ?_
  show Run _ _ _ _ _ _ _ _ _ _ _ _ T0 (mkF m 1 #[.val (.ref xa), .val (.ref ba)] [(.ref xa)])
  refine Run.via (fun _ => XS.aloadN X0.at X0.ex rfl (X0.de n1d_1) rfl rfl) ?_
  show Run _ _ _ _ _ _ _ _ _ _ _ _ T0 (mkF m 2 #[.val (.ref xa), .val (.ref ba)] [(.ref ba), (.ref xa)])
  refine Run.via (fun _ => XS.iconst X0.at X0.ex rfl (X0.de n1d_2)) ?_
  show Run _ _ _ _ _ _ _ _ _ _ _ _ T0 (mkF m 3 #[.val (.ref xa), .val (.ref ba)] [(.int (0 : Int32)), (.ref ba), (.ref xa)])
  refine Run.via (fun _ => XS.aloadN X0.at X0.ex rfl (X0.de n1d_3) rfl rfl) ?_
  show Run _ _ _ _ _ _ _ _ _ _ _ _ T0 (mkF m 4 #[.val (.ref xa), .val (.ref ba)] [(.ref ba), (.int (0 : Int32)), (.ref ba), (.ref xa)])
  refine Run.alen X0 A n1d_4 ?_
  show Run _ _ _ _ _ _ _ _ _ _ _ _ T0 (mkF m 5 #[.val (.ref xa), .val (.ref ba)] [(.int (0 : Int32)), (.int (0 : Int32)), (.ref ba), (.ref xa)])
  refine Run.via (fun _ => XS.aconstNull X0.at X0.ex rfl (X0.de n1d_5)) ?_
  show Run _ _ _ _ _ _ _ _ _ _ _ _ T0 (mkF m 6 #[.val (.ref xa), .val (.ref ba)] [.null, (.int (0 : Int32)), (.int (0 : Int32)), (.ref ba), (.ref xa)])
  refine Run.callN X0 (y := (⟨"java/lang/String", "<init>", "([CIILjava/lang/Void;)V"⟩ : MethodName)) (W := 0) (con_n4e l hw hN hm G hz O) rfl (wd hw 20 rfl) (wd hw 21 rfl) (wd hw 16 rfl) (wd hw 23 rfl) (by decide) pd___CIILjava_lang_Void__V rfl (argsL := [(.ref ba), (.int (0 : Int32)), (.int (0 : Int32)), .null]) (rest := []) rfl (Nat.le_of_ble_eq_true rfl) rfl n1d_6 (by decide) (by decide) (Nat.le_of_ble_eq_true rfl) (Nat.le_of_ble_eq_true rfl) (fun y hy => by cases List.mem_singleton.mp hy; exact ⟨Or.inl (List.mem_singleton.mpr rfl), hz⟩) (fun y hy => hy) ?_
  intro v102 T102 h102 L102 q102 X102 XF102 K102
  obtain ⟨rfl, S⟩ := q102
  show Run _ _ _ _ _ _ _ _ _ _ _ _ T102 (mkF m 9 #[.val (.ref xa), .val (.ref ba)] [])
  exact Run.retV X102 rfl n1d_9 (Nat.le_of_ble_eq_true rfl) (Nat.le_of_ble_eq_true rfl) (⟨rfl, S⟩)
-- part con_nl
theorem nld_0 : decode jdk_52_method_3_code 0 = .ok (.iload_n 0, 1) := by decide +kernel
theorem nld_1 : decode jdk_52_method_3_code 1 = .ok (.ifCond .ge 11, 3) := by decide +kernel
theorem nld_12 : decode jdk_52_method_3_code 12 = .ok (.iload_n 0, 1) := by decide +kernel
theorem nld_13 : decode jdk_52_method_3_code 13 = .ok (.ldc 20, 2) := by decide +kernel
theorem nld_15 : decode jdk_52_method_3_code 15 = .ok (.if_icmp .lt 40, 3) := by decide +kernel
theorem nld_55 : decode jdk_52_method_3_code 55 = .ok (.iload_n 0, 1) := by decide +kernel
theorem nld_56 : decode jdk_52_method_3_code 56 = .ok (.iconst 1, 1) := by decide +kernel
theorem nld_57 : decode jdk_52_method_3_code 57 = .ok (.ishl, 1) := by decide +kernel
theorem nld_58 : decode jdk_52_method_3_code 58 = .ok (.ireturn, 1) := by decide +kernel
set_option maxRecDepth 65536 in
set_option maxHeartbeats 40000000 in
theorem con_nl (l : Launch) {Z : State} {a0 : Array Value} {EL : List (String × Nat)} {h0 : Heap} (hw : ∀ d ∈ tables_1, d.before a0 Z = true) {n : Nat} (hn : n ≤ 4) (O : Ext Z.heap h0) : Con l Z a0 EL false (⟨"java/lang/StringUTF16", "newBytesLength", "(I)I"⟩ : MethodName) jdk_52_method_3_code 1 (some .int) ({ frames := 0, cells := 0, slots := 0, locals := 0 } : Room) [] [] #[(.int (Int32.ofNat n))] h0 (fun v h => v = some (.int (Int32.ofNat (2 * n))) ∧ h0 = h) := by
  refine Con.enter (plainFor_of_name (by first | (simp [plainName, overriddenIn]; done) | decide +kernel)) O ?_
  intro p e s m below meth c T0 X0
  rw [show entryFrame m #[(.int (Int32.ofNat n))] 1 = (mkF m 0 #[.val (.int (Int32.ofNat n))] []) from by first | (simp [entryFrame, mkF, argsToLocals, Value.category]; done) | rfl]
  refine Run.via (fun _ => XS.iloadN X0.at X0.ex rfl (X0.de nld_0) rfl) ?_
  show Run _ _ _ _ _ _ _ _ _ _ _ _ T0 (mkF m 1 #[.val (.int (Int32.ofNat n))] [(.int (Int32.ofNat n))])
  have q0 : ¬ Int32.ofNat n < 0 := (n32' (by omega)).1
  refine Run.via (fun _ => XS.ifYes X0.at X0.ex rfl (pc0 := 1) (pc' := 12) rfl (X0.de nld_1) rfl ((if0 _ _).trans (flt q0).2.1) (by decide) (by decide)) ?_
  show Run _ _ _ _ _ _ _ _ _ _ _ _ T0 (mkF m 12 #[.val (.int (Int32.ofNat n))] [])
  refine Run.via (fun _ => XS.iloadN X0.at X0.ex rfl (X0.de nld_12) rfl) ?_
  show Run _ _ _ _ _ _ _ _ _ _ _ _ T0 (mkF m 13 #[.val (.int (Int32.ofNat n))] [(.int (Int32.ofNat n))])
  refine Run.ldcI X0 (wd hw 45 rfl) nld_13 ?_
  show Run _ _ _ _ _ _ _ _ _ _ _ _ T0 (mkF m 15 #[.val (.int (Int32.ofNat n))] [(.int (1073741823 : Int32)), (.int (Int32.ofNat n))])
  have q1 : Int32.ofNat n < (1073741823 : Int32) := by rw [Int32.lt_iff_toInt_lt, i32n (by omega)]; have : (1073741823 : Int32).toInt = 1073741823 := rfl; omega
  refine Run.via (fun _ => XS.icmpYes X0.at X0.ex rfl (pc0 := 15) (pc' := 55) rfl (X0.de nld_15) rfl (tlt q1).1 (by decide) (by decide)) ?_
  show Run _ _ _ _ _ _ _ _ _ _ _ _ T0 (mkF m 55 #[.val (.int (Int32.ofNat n))] [])
  refine Run.via (fun _ => XS.iloadN X0.at X0.ex rfl (X0.de nld_55) rfl) ?_
  show Run _ _ _ _ _ _ _ _ _ _ _ _ T0 (mkF m 56 #[.val (.int (Int32.ofNat n))] [(.int (Int32.ofNat n))])
  refine Run.via (fun _ => XS.iconst X0.at X0.ex rfl (X0.de nld_56)) ?_
  show Run _ _ _ _ _ _ _ _ _ _ _ _ T0 (mkF m 57 #[.val (.int (Int32.ofNat n))] [(.int (1 : Int32)), (.int (Int32.ofNat n))])
  refine Run.via (fun _ => XS.ishl X0.at X0.ex rfl (X0.de nld_57) rfl) ?_
  show Run _ _ _ _ _ _ _ _ _ _ _ _ T0 (mkF m 58 #[.val (.int (Int32.ofNat n))] [(.int ((Int32.ofNat n) <<< ((1 : Int32) &&& 31)))])
  exact Run.retI X0 rfl nld_58 (Nat.le_of_ble_eq_true rfl) (Nat.le_of_ble_eq_true rfl) (⟨by rw [shl1 (by omega)], rfl⟩)
-- part con_nb
theorem nbd_0 : decode jdk_52_method_2_code 0 = .ok (.iload_n 0, 1) := by decide +kernel
theorem nbd_1 : decode jdk_52_method_2_code 1 = .ok (.invokestatic 11, 3) := by decide +kernel
theorem nbd_4 : decode jdk_52_method_2_code 4 = .ok (.newarray .byte, 2) := by decide +kernel
theorem nbd_6 : decode jdk_52_method_2_code 6 = .ok (.areturn, 1) := by decide +kernel
set_option maxRecDepth 65536 in
set_option maxHeartbeats 40000000 in
theorem con_nb (l : Launch) {Z : State} {a0 : Array Value} {EL : List (String × Nat)} {h0 : Heap} (hw : ∀ d ∈ tables_1, d.before a0 Z = true) {n : Nat} (hn : n ≤ 4) (O : Ext Z.heap h0) : Con l Z a0 EL true (⟨"java/lang/StringUTF16", "newBytesFor", "(I)[B"⟩ : MethodName) jdk_52_method_2_code 1 (some (.array .byte)) ({ frames := 1, cells := 1, slots := 8, locals := 14 } : Room) [] [] #[(.int (Int32.ofNat n))] h0 (fun v h => ∃ x, v = some (.ref x) ∧ h0.size ≤ x ∧ Arc .byte Z h x (List.replicate (2 * n) 0)) := by
  refine Con.enter (plainFor_of_name (by first | (simp [plainName, overriddenIn]; done) | decide +kernel)) O ?_
  intro p e s m below meth c T0 X0
  rw [show entryFrame m #[(.int (Int32.ofNat n))] 1 = (mkF m 0 #[.val (.int (Int32.ofNat n))] []) from by first | (simp [entryFrame, mkF, argsToLocals, Value.category]; done) | rfl]
  refine Run.via (fun _ => XS.iloadN X0.at X0.ex rfl (X0.de nbd_0) rfl) ?_
  show Run _ _ _ _ _ _ _ _ _ _ _ _ T0 (mkF m 1 #[.val (.int (Int32.ofNat n))] [(.int (Int32.ofNat n))])
  refine Run.callS X0 (y := (⟨"java/lang/StringUTF16", "newBytesLength", "(I)I"⟩ : MethodName)) (W := 0) (con_nl l hw hn X0.old) (wd hw 42 rfl) (wd hw 43 rfl) (wd hw 30 rfl) (wd hw 44 rfl) (by decide) pd__I_I rfl (argsL := [(.int (Int32.ofNat n))]) (rest := []) rfl (Nat.le_of_ble_eq_true rfl) rfl nbd_1 (by decide) (by decide) (Nat.le_of_ble_eq_true rfl) (Nat.le_of_ble_eq_true rfl) (nofun) (nofun) ?_
  intro v101 T101 h101 L101 q101 X101 XF101 K101
  obtain ⟨rfl, rfl⟩ := q101
  show Run _ _ _ _ _ _ _ _ _ _ _ _ T101 (mkF m 4 #[.val (.int (Int32.ofNat n))] [(.int (Int32.ofNat (2 * n)))])
  refine Run.newarr X101 (aty := .byte) (n := (2 * n)) (cap := 8) (wd hw 32 rfl) rfl nbd_4 rfl (by omega) (by decide) (Nat.le_of_ble_eq_true rfl) (Nat.le_of_ble_eq_true rfl) ?_
  intro T102 h102 x102 g102 X102 K102 z102 A102
  show Run _ _ _ _ _ _ _ _ _ _ _ _ T102 (mkF m 6 #[.val (.int (Int32.ofNat n))] [(.ref x102)])
  exact Run.retA X102 (t := (.array .byte)) rfl rfl rfl nbd_6 (Nat.le_of_ble_eq_true rfl) (Nat.le_of_ble_eq_true rfl) (⟨x102, rfl, by omega, A102⟩) (fun _ x hx => by cases hx; simp)
-- part con_pc
theorem pcd_0 : decode jdk_52_method_4_code 0 = .ok (.getstatic 44, 3) := by decide +kernel
theorem pcd_3 : decode jdk_52_method_4_code 3 = .ok (.ifCond .ne 25, 3) := by decide +kernel
theorem pcd_28 : decode jdk_52_method_4_code 28 = .ok (.iload_n 1, 1) := by decide +kernel
theorem pcd_29 : decode jdk_52_method_4_code 29 = .ok (.iconst 1, 1) := by decide +kernel
theorem pcd_30 : decode jdk_52_method_4_code 30 = .ok (.ishl, 1) := by decide +kernel
theorem pcd_31 : decode jdk_52_method_4_code 31 = .ok (.istore_n 1, 1) := by decide +kernel
theorem pcd_32 : decode jdk_52_method_4_code 32 = .ok (.aload_n 0, 1) := by decide +kernel
theorem pcd_33 : decode jdk_52_method_4_code 33 = .ok (.iload_n 1, 1) := by decide +kernel
theorem pcd_34 : decode jdk_52_method_4_code 34 = .ok (.iinc 1 1, 3) := by decide +kernel
theorem pcd_37 : decode jdk_52_method_4_code 37 = .ok (.iload_n 2, 1) := by decide +kernel
theorem pcd_38 : decode jdk_52_method_4_code 38 = .ok (.getstatic 59, 3) := by decide +kernel
theorem pcd_41 : decode jdk_52_method_4_code 41 = .ok (.ishr, 1) := by decide +kernel
theorem pcd_42 : decode jdk_52_method_4_code 42 = .ok (.i2b, 1) := by decide +kernel
theorem pcd_43 : decode jdk_52_method_4_code 43 = .ok (.bastore, 1) := by decide +kernel
theorem pcd_44 : decode jdk_52_method_4_code 44 = .ok (.aload_n 0, 1) := by decide +kernel
theorem pcd_45 : decode jdk_52_method_4_code 45 = .ok (.iload_n 1, 1) := by decide +kernel
theorem pcd_46 : decode jdk_52_method_4_code 46 = .ok (.iload_n 2, 1) := by decide +kernel
theorem pcd_47 : decode jdk_52_method_4_code 47 = .ok (.getstatic 63, 3) := by decide +kernel
theorem pcd_50 : decode jdk_52_method_4_code 50 = .ok (.ishr, 1) := by decide +kernel
theorem pcd_51 : decode jdk_52_method_4_code 51 = .ok (.i2b, 1) := by decide +kernel
theorem pcd_52 : decode jdk_52_method_4_code 52 = .ok (.bastore, 1) := by decide +kernel
theorem pcd_53 : decode jdk_52_method_4_code 53 = .ok (.return_, 1) := by decide +kernel
set_option maxRecDepth 65536 in
set_option maxHeartbeats 40000000 in
theorem con_pc (l : Launch) {Z : State} {a0 : Array Value} {EL : List (String × Nat)} {h0 : Heap} (hw : ∀ d ∈ tables_1, d.before a0 Z = true) (hU : Sets16 Z) {t : Addr} {ch : Int32} {i : Nat} {bs : List Int32} (A : Arc .byte Z h0 t bs) (hi : 2 * i + 1 < bs.length) (hb : bs.length ≤ 8) (hz : Z.heap.size ≤ t) (O : Ext Z.heap h0) : Con l Z a0 EL false (⟨"java/lang/StringUTF16", "putChar", "([BII)V"⟩ : MethodName) jdk_52_method_4_code 3 none ({ frames := 0, cells := 0, slots := 0, locals := 0 } : Room) [t] [t] #[(.ref t), (.int (Int32.ofNat i)), (.int ch)] h0 (fun v h => v = none ∧ Arc .byte Z h t ((bs.set (2 * i) (StrChars.lo8 ch)).set (2 * i + 1) (StrChars.hi8 ch))) := by
  refine Con.enter (plainFor_of_name (by first | (simp [plainName, overriddenIn]; done) | decide +kernel)) O ?_
  intro p e s m below meth c T0 X0
  rw [show entryFrame m #[(.ref t), (.int (Int32.ofNat i)), (.int ch)] 3 = (mkF m 0 #[.val (.ref t), .val (.int (Int32.ofNat i)), .val (.int ch)] []) from by first | (simp [entryFrame, mkF, argsToLocals, Value.category]; done) | rfl]
  refine Run.gets X0 (wd hw 49 rfl) Via.refl hU.1 pcd_0 ?_
  intro T101 X101
  show Run _ _ _ _ _ _ _ _ _ _ _ _ T101 (mkF m 3 #[.val (.ref t), .val (.int (Int32.ofNat i)), .val (.int ch)] [(.int (1 : Int32))])
  refine Run.via (fun _ => XS.ifYes X101.at X101.ex rfl (pc0 := 3) (pc' := 28) rfl (X101.de pcd_3) rfl ((if0 _ _).trans (feq (by decide : ¬ ((1 : Int32) = (0 : Int32)))).2) (by decide) (by decide)) ?_
  show Run _ _ _ _ _ _ _ _ _ _ _ _ T101 (mkF m 28 #[.val (.ref t), .val (.int (Int32.ofNat i)), .val (.int ch)] [])
  refine Run.via (fun _ => XS.iloadN X101.at X101.ex rfl (X101.de pcd_28) rfl) ?_
  show Run _ _ _ _ _ _ _ _ _ _ _ _ T101 (mkF m 29 #[.val (.ref t), .val (.int (Int32.ofNat i)), .val (.int ch)] [(.int (Int32.ofNat i))])
  refine Run.via (fun _ => XS.iconst X101.at X101.ex rfl (X101.de pcd_29)) ?_
  show Run _ _ _ _ _ _ _ _ _ _ _ _ T101 (mkF m 30 #[.val (.ref t), .val (.int (Int32.ofNat i)), .val (.int ch)] [(.int (1 : Int32)), (.int (Int32.ofNat i))])
  refine Run.via (fun _ => XS.ishl X101.at X101.ex rfl (X101.de pcd_30) rfl) ?_
  show Run _ _ _ _ _ _ _ _ _ _ _ _ T101 (mkF m 31 #[.val (.ref t), .val (.int (Int32.ofNat i)), .val (.int ch)] [(.int ((Int32.ofNat i) <<< ((1 : Int32) &&& 31)))])
  rw [show ((Int32.ofNat i) <<< ((1 : Int32) &&& 31)) = (Int32.ofNat (2 * i)) from shl1 (by omega)]
  show Run _ _ _ _ _ _ _ _ _ _ _ _ T101 (mkF m 31 #[.val (.ref t), .val (.int (Int32.ofNat i)), .val (.int ch)] [(.int (Int32.ofNat (2 * i)))])
  refine Run.via (fun _ => XS.istoreN X101.at X101.ex rfl (X101.de pcd_31) rfl (l' := #[.val (.ref t), .val (.int (Int32.ofNat (2 * i))), .val (.int ch)]) rfl) ?_
  show Run _ _ _ _ _ _ _ _ _ _ _ _ T101 (mkF m 32 #[.val (.ref t), .val (.int (Int32.ofNat (2 * i))), .val (.int ch)] [])
  refine Run.via (fun _ => XS.aloadN X101.at X101.ex rfl (X101.de pcd_32) rfl rfl) ?_
  show Run _ _ _ _ _ _ _ _ _ _ _ _ T101 (mkF m 33 #[.val (.ref t), .val (.int (Int32.ofNat (2 * i))), .val (.int ch)] [(.ref t)])
  refine Run.via (fun _ => XS.iloadN X101.at X101.ex rfl (X101.de pcd_33) rfl) ?_
  show Run _ _ _ _ _ _ _ _ _ _ _ _ T101 (mkF m 34 #[.val (.ref t), .val (.int (Int32.ofNat (2 * i))), .val (.int ch)] [(.int (Int32.ofNat (2 * i))), (.ref t)])
  refine Run.via (fun _ => XS.iinc X101.at X101.ex rfl (X101.de pcd_34) rfl (l' := #[.val (.ref t), .val (.int ((Int32.ofNat (2 * i)) + (1 : Int32))), .val (.int ch)]) rfl) ?_
  show Run _ _ _ _ _ _ _ _ _ _ _ _ T101 (mkF m 37 #[.val (.ref t), .val (.int ((Int32.ofNat (2 * i)) + (1 : Int32))), .val (.int ch)] [(.int (Int32.ofNat (2 * i))), (.ref t)])
  refine Run.via (fun _ => XS.iloadN X101.at X101.ex rfl (X101.de pcd_37) rfl) ?_
  show Run _ _ _ _ _ _ _ _ _ _ _ _ T101 (mkF m 38 #[.val (.ref t), .val (.int ((Int32.ofNat (2 * i)) + (1 : Int32))), .val (.int ch)] [(.int ch), (.int (Int32.ofNat (2 * i))), (.ref t)])
  refine Run.gets X101 (wd hw 50 rfl) Via.refl hU.2.1 pcd_38 ?_
  intro T102 X102
  show Run _ _ _ _ _ _ _ _ _ _ _ _ T102 (mkF m 41 #[.val (.ref t), .val (.int ((Int32.ofNat (2 * i)) + (1 : Int32))), .val (.int ch)] [(.int (0 : Int32)), (.int ch), (.int (Int32.ofNat (2 * i))), (.ref t)])
  refine Run.via (fun _ => XS.ishr X102.at X102.ex rfl (X102.de pcd_41) rfl) ?_
  show Run _ _ _ _ _ _ _ _ _ _ _ _ T102 (mkF m 42 #[.val (.ref t), .val (.int ((Int32.ofNat (2 * i)) + (1 : Int32))), .val (.int ch)] [(.int (ch >>> ((0 : Int32) &&& 31))), (.int (Int32.ofNat (2 * i))), (.ref t)])
  refine Run.via (fun _ => XS.i2b X102.at X102.ex rfl (X102.de pcd_42) rfl) ?_
  show Run _ _ _ _ _ _ _ _ _ _ _ _ T102 (mkF m 43 #[.val (.ref t), .val (.int ((Int32.ofNat (2 * i)) + (1 : Int32))), .val (.int ch)] [(.int ((ch >>> ((0 : Int32) &&& 31)).toInt8.toInt32)), (.int (Int32.ofNat (2 * i))), (.ref t)])
  refine Run.bastore X102 (i := (2 * i)) (v' := (StrChars.lo8 ch)) A rfl (by omega) (by rw [StrChars.shr0]; exact nar_lo8 ch) (Or.inl (List.mem_singleton.mpr rfl)) hz (by simp) pcd_43 ?_
  intro T103 h103 L103 X103 K103 z103 A103
  show Run _ _ _ _ _ _ _ _ _ _ _ _ T103 (mkF m 44 #[.val (.ref t), .val (.int ((Int32.ofNat (2 * i)) + (1 : Int32))), .val (.int ch)] [])
  refine Run.via (fun _ => XS.aloadN X103.at X103.ex rfl (X103.de pcd_44) rfl rfl) ?_
  show Run _ _ _ _ _ _ _ _ _ _ _ _ T103 (mkF m 45 #[.val (.ref t), .val (.int ((Int32.ofNat (2 * i)) + (1 : Int32))), .val (.int ch)] [(.ref t)])
  refine Run.via (fun _ => XS.iloadN X103.at X103.ex rfl (X103.de pcd_45) rfl) ?_
  show Run _ _ _ _ _ _ _ _ _ _ _ _ T103 (mkF m 46 #[.val (.ref t), .val (.int ((Int32.ofNat (2 * i)) + (1 : Int32))), .val (.int ch)] [(.int ((Int32.ofNat (2 * i)) + (1 : Int32))), (.ref t)])
  refine Run.via (fun _ => XS.iloadN X103.at X103.ex rfl (X103.de pcd_46) rfl) ?_
  show Run _ _ _ _ _ _ _ _ _ _ _ _ T103 (mkF m 47 #[.val (.ref t), .val (.int ((Int32.ofNat (2 * i)) + (1 : Int32))), .val (.int ch)] [(.int ch), (.int ((Int32.ofNat (2 * i)) + (1 : Int32))), (.ref t)])
  refine Run.gets X103 (wd hw 51 rfl) Via.refl hU.2.2 pcd_47 ?_
  intro T104 X104
  show Run _ _ _ _ _ _ _ _ _ _ _ _ T104 (mkF m 50 #[.val (.ref t), .val (.int ((Int32.ofNat (2 * i)) + (1 : Int32))), .val (.int ch)] [(.int (8 : Int32)), (.int ch), (.int ((Int32.ofNat (2 * i)) + (1 : Int32))), (.ref t)])
  refine Run.via (fun _ => XS.ishr X104.at X104.ex rfl (X104.de pcd_50) rfl) ?_
  show Run _ _ _ _ _ _ _ _ _ _ _ _ T104 (mkF m 51 #[.val (.ref t), .val (.int ((Int32.ofNat (2 * i)) + (1 : Int32))), .val (.int ch)] [(.int (ch >>> ((8 : Int32) &&& 31))), (.int ((Int32.ofNat (2 * i)) + (1 : Int32))), (.ref t)])
  refine Run.via (fun _ => XS.i2b X104.at X104.ex rfl (X104.de pcd_51) rfl) ?_
  show Run _ _ _ _ _ _ _ _ _ _ _ _ T104 (mkF m 52 #[.val (.ref t), .val (.int ((Int32.ofNat (2 * i)) + (1 : Int32))), .val (.int ch)] [(.int ((ch >>> ((8 : Int32) &&& 31)).toInt8.toInt32)), (.int ((Int32.ofNat (2 * i)) + (1 : Int32))), (.ref t)])
  refine Run.bastore X104 (i := (2 * i + 1)) (v' := (StrChars.hi8 ch)) A103 (i32succ (by omega)) (by simpa using hi) (nar_lo8 _) (Or.inl (List.mem_singleton.mpr rfl)) hz (by simp) pcd_52 ?_
  intro T105 h105 L105 X105 K105 z105 A105
  show Run _ _ _ _ _ _ _ _ _ _ _ _ T105 (mkF m 53 #[.val (.ref t), .val (.int ((Int32.ofNat (2 * i)) + (1 : Int32))), .val (.int ch)] [])
  exact Run.retV X105 rfl pcd_53 (Nat.le_of_ble_eq_true rfl) (Nat.le_of_ble_eq_true rfl) (⟨rfl, A105⟩)
-- part con_tb
theorem tbd_0 : decode jdk_52_method_14_code 0 = .ok (.iload_n 2, 1) := by decide +kernel
theorem tbd_1 : decode jdk_52_method_14_code 1 = .ok (.invokestatic 107, 3) := by decide +kernel
theorem tbd_4 : decode jdk_52_method_14_code 4 = .ok (.astore_n 3, 1) := by decide +kernel
theorem tbd_5 : decode jdk_52_method_14_code 5 = .ok (.iconst 0, 1) := by decide +kernel
theorem tbd_6 : decode jdk_52_method_14_code 6 = .ok (.istore 4, 2) := by decide +kernel
theorem tbd_8 : decode jdk_52_method_14_code 8 = .ok (.iload 4, 2) := by decide +kernel
theorem tbd_10 : decode jdk_52_method_14_code 10 = .ok (.iload_n 2, 1) := by decide +kernel
theorem tbd_11 : decode jdk_52_method_14_code 11 = .ok (.if_icmp .ge 21, 3) := by decide +kernel
theorem tbd_14 : decode jdk_52_method_14_code 14 = .ok (.aload_n 3, 1) := by decide +kernel
theorem tbd_15 : decode jdk_52_method_14_code 15 = .ok (.iload 4, 2) := by decide +kernel
theorem tbd_17 : decode jdk_52_method_14_code 17 = .ok (.aload_n 0, 1) := by decide +kernel
theorem tbd_18 : decode jdk_52_method_14_code 18 = .ok (.iload_n 1, 1) := by decide +kernel
theorem tbd_19 : decode jdk_52_method_14_code 19 = .ok (.caload, 1) := by decide +kernel
theorem tbd_20 : decode jdk_52_method_14_code 20 = .ok (.invokestatic 111, 3) := by decide +kernel
theorem tbd_23 : decode jdk_52_method_14_code 23 = .ok (.iinc 1 1, 3) := by decide +kernel
theorem tbd_26 : decode jdk_52_method_14_code 26 = .ok (.iinc 4 1, 3) := by decide +kernel
theorem tbd_29 : decode jdk_52_method_14_code 29 = .ok (.goto (-21), 3) := by decide +kernel
theorem tbd_32 : decode jdk_52_method_14_code 32 = .ok (.aload_n 3, 1) := by decide +kernel
theorem tbd_33 : decode jdk_52_method_14_code 33 = .ok (.areturn, 1) := by decide +kernel
set_option maxRecDepth 65536 in
set_option maxHeartbeats 40000000 in
theorem con_tb (l : Launch) {Z : State} {a0 : Array Value} {EL : List (String × Nat)} {h0 : Heap} (hw : ∀ d ∈ tables_1, d.before a0 Z = true) (hU : Sets16 Z) {b : Addr} {cs : List Int32} (hn : cs.length ≤ 4) (B : Arc .char Z h0 b cs) (O : Ext Z.heap h0) : Con l Z a0 EL false (⟨"java/lang/StringUTF16", "toBytes", "([CII)[B"⟩ : MethodName) jdk_52_method_14_code 5 (some (.array .byte)) ({ frames := 2, cells := 1, slots := 8, locals := 40 } : Room) [] [] #[(.ref b), (.int (Int32.ofNat 0)), (.int (Int32.ofNat cs.length))] h0 (fun v h => ∃ x, v = some (.ref x) ∧ h0.size ≤ x ∧ Arc .byte Z h x (wb cs)) := by
  refine Con.enter (plainFor_of_name (by first | (simp [plainName, overriddenIn]; done) | decide +kernel)) O ?_
  intro p e s m below meth c T0 X0
  rw [show entryFrame m #[(.ref b), (.int (Int32.ofNat 0)), (.int (Int32.ofNat cs.length))] 5 = (mkF m 0 #[.val (.ref b), .val (.int (Int32.ofNat 0)), .val (.int (Int32.ofNat cs.length)), .unset, .unset] []) from by first | (simp [entryFrame, mkF, argsToLocals, Value.category]; done) | rfl]
  refine Run.via (fun _ => XS.iloadN X0.at X0.ex rfl (X0.de tbd_0) rfl) ?_
  show Run _ _ _ _ _ _ _ _ _ _ _ _ T0 (mkF m 1 #[.val (.ref b), .val (.int (Int32.ofNat 0)), .val (.int (Int32.ofNat cs.length)), .unset, .unset] [(.int (Int32.ofNat cs.length))])
  refine Run.callS X0 (y := (⟨"java/lang/StringUTF16", "newBytesFor", "(I)[B"⟩ : MethodName)) (W := 0) (con_nb l hw hn X0.old) (wd hw 39 rfl) (wd hw 40 rfl) (wd hw 30 rfl) (wd hw 41 rfl) (by decide) pd__I__B rfl (argsL := [(.int (Int32.ofNat cs.length))]) (rest := []) rfl (Nat.le_of_ble_eq_true rfl) rfl tbd_1 (by decide) (by decide) (Nat.le_of_ble_eq_true rfl) (Nat.le_of_ble_eq_true rfl) (nofun) (nofun) ?_
  intro v101 T101 h101 L101 q101 X101 XF101 K101
  obtain ⟨x, rfl, gx, A1⟩ := q101
  have X101 := XF101 rfl _ rfl
  show Run _ _ _ _ _ _ _ _ _ _ _ _ T101 (mkF m 4 #[.val (.ref b), .val (.int (Int32.ofNat 0)), .val (.int (Int32.ofNat cs.length)), .unset, .unset] [(.ref x)])
  refine Run.via (fun _ => XS.astoreN X101.at X101.ex rfl (X101.de tbd_4) rfl rfl (l' := #[.val (.ref b), .val (.int (Int32.ofNat 0)), .val (.int (Int32.ofNat cs.length)), .val (.ref x), .unset]) rfl) ?_
  show Run _ _ _ _ _ _ _ _ _ _ _ _ T101 (mkF m 5 #[.val (.ref b), .val (.int (Int32.ofNat 0)), .val (.int (Int32.ofNat cs.length)), .val (.ref x), .unset] [])
  refine Run.via (fun _ => XS.iconst X101.at X101.ex rfl (X101.de tbd_5)) ?_
  show Run _ _ _ _ _ _ _ _ _ _ _ _ T101 (mkF m 6 #[.val (.ref b), .val (.int (Int32.ofNat 0)), .val (.int (Int32.ofNat cs.length)), .val (.ref x), .unset] [(.int (0 : Int32))])
  refine Run.via (fun _ => XS.istore X101.at X101.ex rfl (X101.de tbd_6) rfl (l' := #[.val (.ref b), .val (.int (Int32.ofNat 0)), .val (.int (Int32.ofNat cs.length)), .val (.ref x), .val (.int (0 : Int32))]) rfl) ?_
  show Run _ _ _ _ _ _ _ _ _ _ _ _ T101 (mkF m 8 #[.val (.ref b), .val (.int (Int32.ofNat 0)), .val (.int (Int32.ofNat cs.length)), .val (.ref x), .val (.int (0 : Int32))] [])
  have ho := O.1
  have B1 := B.keep K101 nin0
  have gB := B.lt
  have loop : ∀ (d i : Nat), cs.length - i = d → i ≤ cs.length → ∀ (Tl : State) (hl : Heap) (Lq : List Loc), Sit Z a0 EL p l e ({ frames := 2, cells := 1, slots := 8, locals := 40 } : Room) s m #[(.ref b), (.int (Int32.ofNat 0)), (.int (Int32.ofNat cs.length))] below meth c "java/lang/StringUTF16" jdk_52_method_14_code 5 (some (.array .byte)) "toBytes" h0 [] [x] Tl hl Lq 1 8 → Arc .char Z hl b cs → Arc .byte Z hl x (wb (cs.take i) ++ List.replicate (2 * (cs.length - i)) 0) → Run Z EL false p e below s h0 [] (fun v h => ∃ x, v = some (.ref x) ∧ h0.size ≤ x ∧ Arc .byte Z h x (wb cs)) ({ frames := 2, cells := 1, slots := 8, locals := 40 } : Room).cells ({ frames := 2, cells := 1, slots := 8, locals := 40 } : Room).slots Tl (mkF m 8 #[.val (.ref b), .val (.int (Int32.ofNat i)), .val (.int (Int32.ofNat cs.length)), .val (.ref x), .val (.int (Int32.ofNat i))] []) := by
    intro d
    induction d with
    | zero =>
      intro i hd hi Tl hl Lq Xl B2 A2
      obtain rfl : i = cs.length := by omega
      refine Run.via (fun _ => XS.iload Xl.at Xl.ex rfl (Xl.de tbd_8) rfl) ?_
      show Run _ _ _ _ _ _ _ _ _ _ _ _ Tl (mkF m 10 #[.val (.ref b), .val (.int (Int32.ofNat cs.length)), .val (.int (Int32.ofNat cs.length)), .val (.ref x), .val (.int (Int32.ofNat cs.length))] [(.int (Int32.ofNat cs.length))])
      refine Run.via (fun _ => XS.iloadN Xl.at Xl.ex rfl (Xl.de tbd_10) rfl) ?_
      show Run _ _ _ _ _ _ _ _ _ _ _ _ Tl (mkF m 11 #[.val (.ref b), .val (.int (Int32.ofNat cs.length)), .val (.int (Int32.ofNat cs.length)), .val (.ref x), .val (.int (Int32.ofNat cs.length))] [(.int (Int32.ofNat cs.length)), (.int (Int32.ofNat cs.length))])
      refine Run.via (fun _ => XS.icmpYes Xl.at Xl.ex rfl (pc0 := 11) (pc' := 32) rfl (Xl.de tbd_11) rfl (flt (Int32.lt_irrefl : ¬ Int32.ofNat cs.length < Int32.ofNat cs.length)).2.1 (by decide) (by decide)) ?_
      show Run _ _ _ _ _ _ _ _ _ _ _ _ Tl (mkF m 32 #[.val (.ref b), .val (.int (Int32.ofNat cs.length)), .val (.int (Int32.ofNat cs.length)), .val (.ref x), .val (.int (Int32.ofNat cs.length))] [])
      refine Run.via (fun _ => XS.aloadN Xl.at Xl.ex rfl (Xl.de tbd_32) rfl rfl) ?_
      show Run _ _ _ _ _ _ _ _ _ _ _ _ Tl (mkF m 33 #[.val (.ref b), .val (.int (Int32.ofNat cs.length)), .val (.int (Int32.ofNat cs.length)), .val (.ref x), .val (.int (Int32.ofNat cs.length))] [(.ref x)])
      exact Run.retA Xl (t := (.array .byte)) rfl rfl rfl tbd_33 (Nat.le_of_ble_eq_true rfl) (Nat.le_of_ble_eq_true rfl) (⟨x, rfl, gx, by simpa using A2⟩) (nofun)
    | succ d ih =>
      intro i hd hi Tl hl Lq Xl B2 A2
      have hi' : i < cs.length := by omega
      refine Run.via (fun _ => XS.iload Xl.at Xl.ex rfl (Xl.de tbd_8) rfl) ?_
      show Run _ _ _ _ _ _ _ _ _ _ _ _ Tl (mkF m 10 #[.val (.ref b), .val (.int (Int32.ofNat i)), .val (.int (Int32.ofNat cs.length)), .val (.ref x), .val (.int (Int32.ofNat i))] [(.int (Int32.ofNat i))])
      refine Run.via (fun _ => XS.iloadN Xl.at Xl.ex rfl (Xl.de tbd_10) rfl) ?_
      show Run _ _ _ _ _ _ _ _ _ _ _ _ Tl (mkF m 11 #[.val (.ref b), .val (.int (Int32.ofNat i)), .val (.int (Int32.ofNat cs.length)), .val (.ref x), .val (.int (Int32.ofNat i))] [(.int (Int32.ofNat cs.length)), (.int (Int32.ofNat i))])
      refine Run.via (fun _ => XS.icmpNo Xl.at Xl.ex rfl (Xl.de tbd_11) rfl (tlt ((i32lt (by omega) (by omega)).mpr hi')).2.1) ?_
      show Run _ _ _ _ _ _ _ _ _ _ _ _ Tl (mkF m 14 #[.val (.ref b), .val (.int (Int32.ofNat i)), .val (.int (Int32.ofNat cs.length)), .val (.ref x), .val (.int (Int32.ofNat i))] [])
      refine Run.via (fun _ => XS.aloadN Xl.at Xl.ex rfl (Xl.de tbd_14) rfl rfl) ?_
      show Run _ _ _ _ _ _ _ _ _ _ _ _ Tl (mkF m 15 #[.val (.ref b), .val (.int (Int32.ofNat i)), .val (.int (Int32.ofNat cs.length)), .val (.ref x), .val (.int (Int32.ofNat i))] [(.ref x)])
      refine Run.via (fun _ => XS.iload Xl.at Xl.ex rfl (Xl.de tbd_15) rfl) ?_
      show Run _ _ _ _ _ _ _ _ _ _ _ _ Tl (mkF m 17 #[.val (.ref b), .val (.int (Int32.ofNat i)), .val (.int (Int32.ofNat cs.length)), .val (.ref x), .val (.int (Int32.ofNat i))] [(.int (Int32.ofNat i)), (.ref x)])
      refine Run.via (fun _ => XS.aloadN Xl.at Xl.ex rfl (Xl.de tbd_17) rfl rfl) ?_
      show Run _ _ _ _ _ _ _ _ _ _ _ _ Tl (mkF m 18 #[.val (.ref b), .val (.int (Int32.ofNat i)), .val (.int (Int32.ofNat cs.length)), .val (.ref x), .val (.int (Int32.ofNat i))] [(.ref b), (.int (Int32.ofNat i)), (.ref x)])
      refine Run.via (fun _ => XS.iloadN Xl.at Xl.ex rfl (Xl.de tbd_18) rfl) ?_
      show Run _ _ _ _ _ _ _ _ _ _ _ _ Tl (mkF m 19 #[.val (.ref b), .val (.int (Int32.ofNat i)), .val (.int (Int32.ofNat cs.length)), .val (.ref x), .val (.int (Int32.ofNat i))] [(.int (Int32.ofNat i)), (.ref b), (.int (Int32.ofNat i)), (.ref x)])
      refine Run.caload Xl (i := i) B2 rfl hi' tbd_19 ?_
      show Run _ _ _ _ _ _ _ _ _ _ _ _ Tl (mkF m 20 #[.val (.ref b), .val (.int (Int32.ofNat i)), .val (.int (Int32.ofNat cs.length)), .val (.ref x), .val (.int (Int32.ofNat i))] [(.int (cs.getD i 0)), (.int (Int32.ofNat i)), (.ref x)])
      have hlb : (wb (cs.take i) ++ List.replicate (2 * (cs.length - i)) 0).length = 2 * cs.length := by rw [List.length_append, wb_len, List.length_take, List.length_replicate]; omega
      refine Run.callS Xl (y := (⟨"java/lang/StringUTF16", "putChar", "([BII)V"⟩ : MethodName)) (W := 0) (con_pc l hw hU A2 (i := i) (by omega) (by omega) (by omega) Xl.old) (wd hw 46 rfl) (wd hw 47 rfl) (wd hw 30 rfl) (wd hw 48 rfl) (by decide) pd___BII_V rfl (argsL := [(.ref x), (.int (Int32.ofNat i)), (.int (cs.getD i 0))]) (rest := []) rfl (Nat.le_of_ble_eq_true rfl) rfl tbd_20 (by decide) (by decide) (Nat.le_of_ble_eq_true rfl) (Nat.le_of_ble_eq_true rfl) (fun y hy => by cases List.mem_singleton.mp hy; exact ⟨Or.inr gx, by omega⟩) (fun y hy => hy) ?_
      intro v102 T102 h102 L102 q102 X102 XF102 K102
      obtain ⟨rfl, A3⟩ := q102
      show Run _ _ _ _ _ _ _ _ _ _ _ _ T102 (mkF m 23 #[.val (.ref b), .val (.int (Int32.ofNat i)), .val (.int (Int32.ofNat cs.length)), .val (.ref x), .val (.int (Int32.ofNat i))] [])
      rw [wb_set cs i hi'] at A3
      have B3 := B2.keep K102 (ninS (neA (by omega)) nin0)
      refine Run.via (fun _ => XS.iinc X102.at X102.ex rfl (X102.de tbd_23) rfl (l' := #[.val (.ref b), .val (.int ((Int32.ofNat i) + (1 : Int32))), .val (.int (Int32.ofNat cs.length)), .val (.ref x), .val (.int (Int32.ofNat i))]) rfl) ?_
      show Run _ _ _ _ _ _ _ _ _ _ _ _ T102 (mkF m 26 #[.val (.ref b), .val (.int ((Int32.ofNat i) + (1 : Int32))), .val (.int (Int32.ofNat cs.length)), .val (.ref x), .val (.int (Int32.ofNat i))] [])
      refine Run.via (fun _ => XS.iinc X102.at X102.ex rfl (X102.de tbd_26) rfl (l' := #[.val (.ref b), .val (.int ((Int32.ofNat i) + (1 : Int32))), .val (.int (Int32.ofNat cs.length)), .val (.ref x), .val (.int ((Int32.ofNat i) + (1 : Int32)))]) rfl) ?_
      show Run _ _ _ _ _ _ _ _ _ _ _ _ T102 (mkF m 29 #[.val (.ref b), .val (.int ((Int32.ofNat i) + (1 : Int32))), .val (.int (Int32.ofNat cs.length)), .val (.ref x), .val (.int ((Int32.ofNat i) + (1 : Int32)))] [])
      refine Run.via (fun _ => XS.goto X102.at X102.ex rfl (pc0 := 29) (pc' := 8) rfl (X102.de tbd_29) (by decide) (by decide)) ?_
      show Run _ _ _ _ _ _ _ _ _ _ _ _ T102 (mkF m 8 #[.val (.ref b), .val (.int ((Int32.ofNat i) + (1 : Int32))), .val (.int (Int32.ofNat cs.length)), .val (.ref x), .val (.int ((Int32.ofNat i) + (1 : Int32)))] [])
      rw [i32succ (by omega)]
      exact ih (i + 1) (by omega) (by omega) _ _ _ X102 B3 A3
  exact loop cs.length 0 (by omega) (by omega) _ _ _ X101 B1 (by simpa [wb] using A1)
-- part con_gc
theorem gcd_0 : decode jdk_52_method_5_code 0 = .ok (.getstatic 44, 3) := by decide +kernel
theorem gcd_3 : decode jdk_52_method_5_code 3 = .ok (.ifCond .ne 25, 3) := by decide +kernel
theorem gcd_28 : decode jdk_52_method_5_code 28 = .ok (.iload_n 1, 1) := by decide +kernel
theorem gcd_29 : decode jdk_52_method_5_code 29 = .ok (.iconst 1, 1) := by decide +kernel
theorem gcd_30 : decode jdk_52_method_5_code 30 = .ok (.ishl, 1) := by decide +kernel
theorem gcd_31 : decode jdk_52_method_5_code 31 = .ok (.istore_n 1, 1) := by decide +kernel
theorem gcd_32 : decode jdk_52_method_5_code 32 = .ok (.aload_n 0, 1) := by decide +kernel
theorem gcd_33 : decode jdk_52_method_5_code 33 = .ok (.iload_n 1, 1) := by decide +kernel
theorem gcd_34 : decode jdk_52_method_5_code 34 = .ok (.iinc 1 1, 3) := by decide +kernel
theorem gcd_37 : decode jdk_52_method_5_code 37 = .ok (.baload, 1) := by decide +kernel
theorem gcd_38 : decode jdk_52_method_5_code 38 = .ok (.sipush 255, 3) := by decide +kernel
theorem gcd_41 : decode jdk_52_method_5_code 41 = .ok (.iand, 1) := by decide +kernel
theorem gcd_42 : decode jdk_52_method_5_code 42 = .ok (.getstatic 59, 3) := by decide +kernel
theorem gcd_45 : decode jdk_52_method_5_code 45 = .ok (.ishl, 1) := by decide +kernel
theorem gcd_46 : decode jdk_52_method_5_code 46 = .ok (.aload_n 0, 1) := by decide +kernel
theorem gcd_47 : decode jdk_52_method_5_code 47 = .ok (.iload_n 1, 1) := by decide +kernel
theorem gcd_48 : decode jdk_52_method_5_code 48 = .ok (.baload, 1) := by decide +kernel
theorem gcd_49 : decode jdk_52_method_5_code 49 = .ok (.sipush 255, 3) := by decide +kernel
theorem gcd_52 : decode jdk_52_method_5_code 52 = .ok (.iand, 1) := by decide +kernel
theorem gcd_53 : decode jdk_52_method_5_code 53 = .ok (.getstatic 63, 3) := by decide +kernel
theorem gcd_56 : decode jdk_52_method_5_code 56 = .ok (.ishl, 1) := by decide +kernel
theorem gcd_57 : decode jdk_52_method_5_code 57 = .ok (.ior, 1) := by decide +kernel
theorem gcd_58 : decode jdk_52_method_5_code 58 = .ok (.i2c, 1) := by decide +kernel
theorem gcd_59 : decode jdk_52_method_5_code 59 = .ok (.ireturn, 1) := by decide +kernel
set_option maxRecDepth 65536 in
set_option maxHeartbeats 40000000 in
theorem con_gc (l : Launch) {Z : State} {a0 : Array Value} {EL : List (String × Nat)} {h0 : Heap} (hw : ∀ d ∈ tables_1, d.before a0 Z = true) (hU : Sets16 Z) {t : Addr} {cs : List Int32} {i : Nat} (hn : cs.length ≤ 4) (hi : i < cs.length) (A : Arc .byte Z h0 t (wb cs)) (hr : ∀ c ∈ cs, ¬ c < 0 ∧ ¬ (65535 : Int32) < c) (O : Ext Z.heap h0) : Con l Z a0 EL false (⟨"java/lang/StringUTF16", "getChar", "([BI)C"⟩ : MethodName) jdk_52_method_5_code 2 (some .char) ({ frames := 0, cells := 0, slots := 0, locals := 0 } : Room) [] [] #[(.ref t), (.int (Int32.ofNat i))] h0 (fun v h => v = some (.int (cs.getD i 0)) ∧ h0 = h) := by
  refine Con.enter (plainFor_of_name (by first | (simp [plainName, overriddenIn]; done) | decide +kernel)) O ?_
  intro p e s m below meth c T0 X0
  rw [show entryFrame m #[(.ref t), (.int (Int32.ofNat i))] 2 = (mkF m 0 #[.val (.ref t), .val (.int (Int32.ofNat i))] []) from by first | (simp [entryFrame, mkF, argsToLocals, Value.category]; done) | rfl]
  refine Run.gets X0 (wd hw 49 rfl) Via.refl hU.1 gcd_0 ?_
  intro T101 X101
  show Run _ _ _ _ _ _ _ _ _ _ _ _ T101 (mkF m 3 #[.val (.ref t), .val (.int (Int32.ofNat i))] [(.int (1 : Int32))])
  refine Run.via (fun _ => XS.ifYes X101.at X101.ex rfl (pc0 := 3) (pc' := 28) rfl (X101.de gcd_3) rfl ((if0 _ _).trans (feq (by decide : ¬ ((1 : Int32) = (0 : Int32)))).2) (by decide) (by decide)) ?_
  show Run _ _ _ _ _ _ _ _ _ _ _ _ T101 (mkF m 28 #[.val (.ref t), .val (.int (Int32.ofNat i))] [])
  refine Run.via (fun _ => XS.iloadN X101.at X101.ex rfl (X101.de gcd_28) rfl) ?_
  show Run _ _ _ _ _ _ _ _ _ _ _ _ T101 (mkF m 29 #[.val (.ref t), .val (.int (Int32.ofNat i))] [(.int (Int32.ofNat i))])
  refine Run.via (fun _ => XS.iconst X101.at X101.ex rfl (X101.de gcd_29)) ?_
  show Run _ _ _ _ _ _ _ _ _ _ _ _ T101 (mkF m 30 #[.val (.ref t), .val (.int (Int32.ofNat i))] [(.int (1 : Int32)), (.int (Int32.ofNat i))])
  refine Run.via (fun _ => XS.ishl X101.at X101.ex rfl (X101.de gcd_30) rfl) ?_
  show Run _ _ _ _ _ _ _ _ _ _ _ _ T101 (mkF m 31 #[.val (.ref t), .val (.int (Int32.ofNat i))] [(.int ((Int32.ofNat i) <<< ((1 : Int32) &&& 31)))])
  rw [show ((Int32.ofNat i) <<< ((1 : Int32) &&& 31)) = (Int32.ofNat (2 * i)) from shl1 (by omega)]
  show Run _ _ _ _ _ _ _ _ _ _ _ _ T101 (mkF m 31 #[.val (.ref t), .val (.int (Int32.ofNat i))] [(.int (Int32.ofNat (2 * i)))])
  refine Run.via (fun _ => XS.istoreN X101.at X101.ex rfl (X101.de gcd_31) rfl (l' := #[.val (.ref t), .val (.int (Int32.ofNat (2 * i)))]) rfl) ?_
  show Run _ _ _ _ _ _ _ _ _ _ _ _ T101 (mkF m 32 #[.val (.ref t), .val (.int (Int32.ofNat (2 * i)))] [])
  refine Run.via (fun _ => XS.aloadN X101.at X101.ex rfl (X101.de gcd_32) rfl rfl) ?_
  show Run _ _ _ _ _ _ _ _ _ _ _ _ T101 (mkF m 33 #[.val (.ref t), .val (.int (Int32.ofNat (2 * i)))] [(.ref t)])
  refine Run.via (fun _ => XS.iloadN X101.at X101.ex rfl (X101.de gcd_33) rfl) ?_
  show Run _ _ _ _ _ _ _ _ _ _ _ _ T101 (mkF m 34 #[.val (.ref t), .val (.int (Int32.ofNat (2 * i)))] [(.int (Int32.ofNat (2 * i))), (.ref t)])
  refine Run.via (fun _ => XS.iinc X101.at X101.ex rfl (X101.de gcd_34) rfl (l' := #[.val (.ref t), .val (.int ((Int32.ofNat (2 * i)) + (1 : Int32)))]) rfl) ?_
  show Run _ _ _ _ _ _ _ _ _ _ _ _ T101 (mkF m 37 #[.val (.ref t), .val (.int ((Int32.ofNat (2 * i)) + (1 : Int32)))] [(.int (Int32.ofNat (2 * i))), (.ref t)])
  have hl := wb_len cs
  refine Run.baload X101 (i := (2 * i)) A rfl (by omega) gcd_37 ?_
  show Run _ _ _ _ _ _ _ _ _ _ _ _ T101 (mkF m 38 #[.val (.ref t), .val (.int ((Int32.ofNat (2 * i)) + (1 : Int32)))] [(.int ((wb cs).getD (2 * i) 0))])
  rw [show ((wb cs).getD (2 * i) 0) = (StrChars.lo8 (cs.getD i 0)) from wb_lo cs i hi]
  show Run _ _ _ _ _ _ _ _ _ _ _ _ T101 (mkF m 38 #[.val (.ref t), .val (.int ((Int32.ofNat (2 * i)) + (1 : Int32)))] [(.int (StrChars.lo8 (cs.getD i 0)))])
  refine Run.via (fun _ => XS.sipush X101.at X101.ex rfl (X101.de gcd_38)) ?_
  show Run _ _ _ _ _ _ _ _ _ _ _ _ T101 (mkF m 41 #[.val (.ref t), .val (.int ((Int32.ofNat (2 * i)) + (1 : Int32)))] [(.int (255 : Int32)), (.int (StrChars.lo8 (cs.getD i 0)))])
  refine Run.via (fun _ => XS.iand X101.at X101.ex rfl (X101.de gcd_41) rfl) ?_
  show Run _ _ _ _ _ _ _ _ _ _ _ _ T101 (mkF m 42 #[.val (.ref t), .val (.int ((Int32.ofNat (2 * i)) + (1 : Int32)))] [(.int ((StrChars.lo8 (cs.getD i 0)) &&& (255 : Int32)))])
  refine Run.gets X101 (wd hw 50 rfl) Via.refl hU.2.1 gcd_42 ?_
  intro T102 X102
  show Run _ _ _ _ _ _ _ _ _ _ _ _ T102 (mkF m 45 #[.val (.ref t), .val (.int ((Int32.ofNat (2 * i)) + (1 : Int32)))] [(.int (0 : Int32)), (.int ((StrChars.lo8 (cs.getD i 0)) &&& (255 : Int32)))])
  refine Run.via (fun _ => XS.ishl X102.at X102.ex rfl (X102.de gcd_45) rfl) ?_
  show Run _ _ _ _ _ _ _ _ _ _ _ _ T102 (mkF m 46 #[.val (.ref t), .val (.int ((Int32.ofNat (2 * i)) + (1 : Int32)))] [(.int (((StrChars.lo8 (cs.getD i 0)) &&& (255 : Int32)) <<< ((0 : Int32) &&& 31)))])
  refine Run.via (fun _ => XS.aloadN X102.at X102.ex rfl (X102.de gcd_46) rfl rfl) ?_
  show Run _ _ _ _ _ _ _ _ _ _ _ _ T102 (mkF m 47 #[.val (.ref t), .val (.int ((Int32.ofNat (2 * i)) + (1 : Int32)))] [(.ref t), (.int (((StrChars.lo8 (cs.getD i 0)) &&& (255 : Int32)) <<< ((0 : Int32) &&& 31)))])
  refine Run.via (fun _ => XS.iloadN X102.at X102.ex rfl (X102.de gcd_47) rfl) ?_
  show Run _ _ _ _ _ _ _ _ _ _ _ _ T102 (mkF m 48 #[.val (.ref t), .val (.int ((Int32.ofNat (2 * i)) + (1 : Int32)))] [(.int ((Int32.ofNat (2 * i)) + (1 : Int32))), (.ref t), (.int (((StrChars.lo8 (cs.getD i 0)) &&& (255 : Int32)) <<< ((0 : Int32) &&& 31)))])
  refine Run.baload X102 (i := (2 * i + 1)) A (i32succ (by omega)) (by omega) gcd_48 ?_
  show Run _ _ _ _ _ _ _ _ _ _ _ _ T102 (mkF m 49 #[.val (.ref t), .val (.int ((Int32.ofNat (2 * i)) + (1 : Int32)))] [(.int ((wb cs).getD (2 * i + 1) 0)), (.int (((StrChars.lo8 (cs.getD i 0)) &&& (255 : Int32)) <<< ((0 : Int32) &&& 31)))])
  rw [show ((wb cs).getD (2 * i + 1) 0) = (StrChars.hi8 (cs.getD i 0)) from wb_hi cs i hi]
  show Run _ _ _ _ _ _ _ _ _ _ _ _ T102 (mkF m 49 #[.val (.ref t), .val (.int ((Int32.ofNat (2 * i)) + (1 : Int32)))] [(.int (StrChars.hi8 (cs.getD i 0))), (.int (((StrChars.lo8 (cs.getD i 0)) &&& (255 : Int32)) <<< ((0 : Int32) &&& 31)))])
  refine Run.via (fun _ => XS.sipush X102.at X102.ex rfl (X102.de gcd_49)) ?_
  show Run _ _ _ _ _ _ _ _ _ _ _ _ T102 (mkF m 52 #[.val (.ref t), .val (.int ((Int32.ofNat (2 * i)) + (1 : Int32)))] [(.int (255 : Int32)), (.int (StrChars.hi8 (cs.getD i 0))), (.int (((StrChars.lo8 (cs.getD i 0)) &&& (255 : Int32)) <<< ((0 : Int32) &&& 31)))])
  refine Run.via (fun _ => XS.iand X102.at X102.ex rfl (X102.de gcd_52) rfl) ?_
  show Run _ _ _ _ _ _ _ _ _ _ _ _ T102 (mkF m 53 #[.val (.ref t), .val (.int ((Int32.ofNat (2 * i)) + (1 : Int32)))] [(.int ((StrChars.hi8 (cs.getD i 0)) &&& (255 : Int32))), (.int (((StrChars.lo8 (cs.getD i 0)) &&& (255 : Int32)) <<< ((0 : Int32) &&& 31)))])
  refine Run.gets X102 (wd hw 51 rfl) Via.refl hU.2.2 gcd_53 ?_
  intro T103 X103
  show Run _ _ _ _ _ _ _ _ _ _ _ _ T103 (mkF m 56 #[.val (.ref t), .val (.int ((Int32.ofNat (2 * i)) + (1 : Int32)))] [(.int (8 : Int32)), (.int ((StrChars.hi8 (cs.getD i 0)) &&& (255 : Int32))), (.int (((StrChars.lo8 (cs.getD i 0)) &&& (255 : Int32)) <<< ((0 : Int32) &&& 31)))])
  refine Run.via (fun _ => XS.ishl X103.at X103.ex rfl (X103.de gcd_56) rfl) ?_
  show Run _ _ _ _ _ _ _ _ _ _ _ _ T103 (mkF m 57 #[.val (.ref t), .val (.int ((Int32.ofNat (2 * i)) + (1 : Int32)))] [(.int (((StrChars.hi8 (cs.getD i 0)) &&& (255 : Int32)) <<< ((8 : Int32) &&& 31))), (.int (((StrChars.lo8 (cs.getD i 0)) &&& (255 : Int32)) <<< ((0 : Int32) &&& 31)))])
  refine Run.via (fun _ => XS.ior X103.at X103.ex rfl (X103.de gcd_57) rfl) ?_
  show Run _ _ _ _ _ _ _ _ _ _ _ _ T103 (mkF m 58 #[.val (.ref t), .val (.int ((Int32.ofNat (2 * i)) + (1 : Int32)))] [(.int ((((StrChars.lo8 (cs.getD i 0)) &&& (255 : Int32)) <<< ((0 : Int32) &&& 31)) ||| (((StrChars.hi8 (cs.getD i 0)) &&& (255 : Int32)) <<< ((8 : Int32) &&& 31))))])
  refine Run.via (fun _ => XS.i2c X103.at X103.ex rfl (X103.de gcd_58) rfl) ?_
  show Run _ _ _ _ _ _ _ _ _ _ _ _ T103 (mkF m 59 #[.val (.ref t), .val (.int ((Int32.ofNat (2 * i)) + (1 : Int32)))] [(.int (((((StrChars.lo8 (cs.getD i 0)) &&& (255 : Int32)) <<< ((0 : Int32) &&& 31)) ||| (((StrChars.hi8 (cs.getD i 0)) &&& (255 : Int32)) <<< ((8 : Int32) &&& 31))).toUInt32.toUInt16.toUInt32.toInt32))])
  exact Run.retN X103 (t := .char) rfl (by simp) gcd_59 (Nat.le_of_ble_eq_true rfl) (Nat.le_of_ble_eq_true rfl) (⟨by rw [nar_i2c]; exact congrArg (fun z => some (Value.int z)) (StrChars.pair_says (hr _ (mem_getD hi)).1 (hr _ (mem_getD hi)).2), rfl⟩)
-- part con_c5
theorem c5d_0 : decode jdk_52_method_21_code 0 = .ok (.iconst 0, 1) := by decide +kernel
theorem c5d_1 : decode jdk_52_method_21_code 1 = .ok (.istore 5, 2) := by decide +kernel
theorem c5d_3 : decode jdk_52_method_21_code 3 = .ok (.iload 5, 2) := by decide +kernel
theorem c5d_5 : decode jdk_52_method_21_code 5 = .ok (.iload 4, 2) := by decide +kernel
theorem c5d_7 : decode jdk_52_method_21_code 7 = .ok (.if_icmp .ge 37, 3) := by decide +kernel
theorem c5d_10 : decode jdk_52_method_21_code 10 = .ok (.aload_n 0, 1) := by decide +kernel
theorem c5d_11 : decode jdk_52_method_21_code 11 = .ok (.iload_n 1, 1) := by decide +kernel
theorem c5d_12 : decode jdk_52_method_21_code 12 = .ok (.caload, 1) := by decide +kernel
theorem c5d_13 : decode jdk_52_method_21_code 13 = .ok (.istore 6, 2) := by decide +kernel
theorem c5d_15 : decode jdk_52_method_21_code 15 = .ok (.iload 6, 2) := by decide +kernel
theorem c5d_17 : decode jdk_52_method_21_code 17 = .ok (.sipush 255, 3) := by decide +kernel
theorem c5d_20 : decode jdk_52_method_21_code 20 = .ok (.if_icmp .le 6, 3) := by decide +kernel
theorem c5d_23 : decode jdk_52_method_21_code 23 = .ok (.iload 5, 2) := by decide +kernel
theorem c5d_25 : decode jdk_52_method_21_code 25 = .ok (.ireturn, 1) := by decide +kernel
theorem c5d_26 : decode jdk_52_method_21_code 26 = .ok (.aload_n 2, 1) := by decide +kernel
theorem c5d_27 : decode jdk_52_method_21_code 27 = .ok (.iload_n 3, 1) := by decide +kernel
theorem c5d_28 : decode jdk_52_method_21_code 28 = .ok (.iload 6, 2) := by decide +kernel
theorem c5d_30 : decode jdk_52_method_21_code 30 = .ok (.i2b, 1) := by decide +kernel
theorem c5d_31 : decode jdk_52_method_21_code 31 = .ok (.bastore, 1) := by decide +kernel
theorem c5d_32 : decode jdk_52_method_21_code 32 = .ok (.iinc 1 1, 3) := by decide +kernel
theorem c5d_35 : decode jdk_52_method_21_code 35 = .ok (.iinc 3 1, 3) := by decide +kernel
theorem c5d_38 : decode jdk_52_method_21_code 38 = .ok (.iinc 5 1, 3) := by decide +kernel
theorem c5d_41 : decode jdk_52_method_21_code 41 = .ok (.goto (-38), 3) := by decide +kernel
set_option maxRecDepth 65536 in
set_option maxHeartbeats 40000000 in
theorem con_c5 (l : Launch) {Z : State} {a0 : Array Value} {EL : List (String × Nat)} {h0 : Heap} (hw : ∀ d ∈ tables_1, d.before a0 Z = true) {b t : Addr} {cs ds : List Int32} {k : Nat} (hn : cs.length ≤ 4) (hb : big cs k) (B : Arc .char Z h0 b cs) (A : Arc .byte Z h0 t ds) (hds : ds.length = cs.length) (hbt : b ≠ t) (hz : Z.heap.size ≤ t) (O : Ext Z.heap h0) : Con l Z a0 EL false (⟨"java/lang/StringUTF16", "compress", "([CI[BII)I"⟩ : MethodName) jdk_52_method_21_code 7 (some .int) ({ frames := 0, cells := 0, slots := 0, locals := 0 } : Room) [t] [t] #[(.ref b), (.int (Int32.ofNat 0)), (.ref t), (.int (Int32.ofNat 0)), (.int (Int32.ofNat cs.length))] h0 (fun v _ => v = some (.int (Int32.ofNat k))) := by
  refine Con.enter (plainFor_of_name (by first | (simp [plainName, overriddenIn]; done) | decide +kernel)) O ?_
  intro p e s m below meth c T0 X0
  rw [show entryFrame m #[(.ref b), (.int (Int32.ofNat 0)), (.ref t), (.int (Int32.ofNat 0)), (.int (Int32.ofNat cs.length))] 7 = (mkF m 0 #[.val (.ref b), .val (.int (Int32.ofNat 0)), .val (.ref t), .val (.int (Int32.ofNat 0)), .val (.int (Int32.ofNat cs.length)), .unset, .unset] []) from by first | (simp [entryFrame, mkF, argsToLocals, Value.category]; done) | rfl]
  refine Run.via (fun _ => XS.iconst X0.at X0.ex rfl (X0.de c5d_0)) ?_
  show Run _ _ _ _ _ _ _ _ _ _ _ _ T0 (mkF m 1 #[.val (.ref b), .val (.int (Int32.ofNat 0)), .val (.ref t), .val (.int (Int32.ofNat 0)), .val (.int (Int32.ofNat cs.length)), .unset, .unset] [(.int (0 : Int32))])
  refine Run.via (fun _ => XS.istore X0.at X0.ex rfl (X0.de c5d_1) rfl (l' := #[.val (.ref b), .val (.int (Int32.ofNat 0)), .val (.ref t), .val (.int (Int32.ofNat 0)), .val (.int (Int32.ofNat cs.length)), .val (.int (0 : Int32)), .unset]) rfl) ?_
  show Run _ _ _ _ _ _ _ _ _ _ _ _ T0 (mkF m 3 #[.val (.ref b), .val (.int (Int32.ofNat 0)), .val (.ref t), .val (.int (Int32.ofNat 0)), .val (.int (Int32.ofNat cs.length)), .val (.int (0 : Int32)), .unset] [])
  have ho := O.1
  have loop : ∀ (d i : Nat), k - i = d → i ≤ k → ∀ (Tl : State) (hl : Heap) (Lq : List Loc) (sl : Slot) (ds : List Int32), One sl → Sit Z a0 EL p l e ({ frames := 0, cells := 0, slots := 0, locals := 0 } : Room) s m #[(.ref b), (.int (Int32.ofNat 0)), (.ref t), (.int (Int32.ofNat 0)), (.int (Int32.ofNat cs.length))] below meth c "java/lang/StringUTF16" jdk_52_method_21_code 7 (some .int) "compress" h0 [t] [t] Tl hl Lq 0 0 → Arc .char Z hl b cs → Arc .byte Z hl t ds → ds.length = cs.length → Run Z EL false p e below s h0 [t] (fun v _ => v = some (.int (Int32.ofNat k))) ({ frames := 0, cells := 0, slots := 0, locals := 0 } : Room).cells ({ frames := 0, cells := 0, slots := 0, locals := 0 } : Room).slots Tl (mkF m 3 #[.val (.ref b), .val (.int (Int32.ofNat i)), .val (.ref t), .val (.int (Int32.ofNat i)), .val (.int (Int32.ofNat cs.length)), .val (.int (Int32.ofNat i)), sl] []) := by
    intro d
    induction d with
    | zero =>
      intro i hd hi Tl hl Lq sl ds hsl Xl B2 A2 hds
      obtain rfl : i = k := by omega
      have hk := hb.1
      have hi' : i < cs.length := hk
      refine Run.via (fun _ => XS.iload Xl.at Xl.ex rfl (Xl.de c5d_3) rfl) ?_
      show Run _ _ _ _ _ _ _ _ _ _ _ _ Tl (mkF m 5 #[.val (.ref b), .val (.int (Int32.ofNat i)), .val (.ref t), .val (.int (Int32.ofNat i)), .val (.int (Int32.ofNat cs.length)), .val (.int (Int32.ofNat i)), sl] [(.int (Int32.ofNat i))])
      refine Run.via (fun _ => XS.iload Xl.at Xl.ex rfl (Xl.de c5d_5) rfl) ?_
      show Run _ _ _ _ _ _ _ _ _ _ _ _ Tl (mkF m 7 #[.val (.ref b), .val (.int (Int32.ofNat i)), .val (.ref t), .val (.int (Int32.ofNat i)), .val (.int (Int32.ofNat cs.length)), .val (.int (Int32.ofNat i)), sl] [(.int (Int32.ofNat cs.length)), (.int (Int32.ofNat i))])
      refine Run.via (fun _ => XS.icmpNo Xl.at Xl.ex rfl (Xl.de c5d_7) rfl (tlt ((i32lt (by omega) (by omega)).mpr hi')).2.1) ?_
      show Run _ _ _ _ _ _ _ _ _ _ _ _ Tl (mkF m 10 #[.val (.ref b), .val (.int (Int32.ofNat i)), .val (.ref t), .val (.int (Int32.ofNat i)), .val (.int (Int32.ofNat cs.length)), .val (.int (Int32.ofNat i)), sl] [])
      refine Run.via (fun _ => XS.aloadN Xl.at Xl.ex rfl (Xl.de c5d_10) rfl rfl) ?_
      show Run _ _ _ _ _ _ _ _ _ _ _ _ Tl (mkF m 11 #[.val (.ref b), .val (.int (Int32.ofNat i)), .val (.ref t), .val (.int (Int32.ofNat i)), .val (.int (Int32.ofNat cs.length)), .val (.int (Int32.ofNat i)), sl] [(.ref b)])
      refine Run.via (fun _ => XS.iloadN Xl.at Xl.ex rfl (Xl.de c5d_11) rfl) ?_
      show Run _ _ _ _ _ _ _ _ _ _ _ _ Tl (mkF m 12 #[.val (.ref b), .val (.int (Int32.ofNat i)), .val (.ref t), .val (.int (Int32.ofNat i)), .val (.int (Int32.ofNat cs.length)), .val (.int (Int32.ofNat i)), sl] [(.int (Int32.ofNat i)), (.ref b)])
      refine Run.caload Xl (i := i) B2 rfl hi' c5d_12 ?_
      show Run _ _ _ _ _ _ _ _ _ _ _ _ Tl (mkF m 13 #[.val (.ref b), .val (.int (Int32.ofNat i)), .val (.ref t), .val (.int (Int32.ofNat i)), .val (.int (Int32.ofNat cs.length)), .val (.int (Int32.ofNat i)), sl] [(.int (cs.getD i 0))])
      refine Run.via (fun _ => XS.istoreS Xl.at Xl.ex rfl (Xl.de c5d_13) rfl rfl hsl) ?_
      show Run _ _ _ _ _ _ _ _ _ _ _ _ Tl (mkF m 15 #[.val (.ref b), .val (.int (Int32.ofNat i)), .val (.ref t), .val (.int (Int32.ofNat i)), .val (.int (Int32.ofNat cs.length)), .val (.int (Int32.ofNat i)), .val (.int (cs.getD i 0))] [])
      refine Run.via (fun _ => XS.iload Xl.at Xl.ex rfl (Xl.de c5d_15) rfl) ?_
      show Run _ _ _ _ _ _ _ _ _ _ _ _ Tl (mkF m 17 #[.val (.ref b), .val (.int (Int32.ofNat i)), .val (.ref t), .val (.int (Int32.ofNat i)), .val (.int (Int32.ofNat cs.length)), .val (.int (Int32.ofNat i)), .val (.int (cs.getD i 0))] [(.int (cs.getD i 0))])
      refine Run.via (fun _ => XS.sipush Xl.at Xl.ex rfl (Xl.de c5d_17)) ?_
      show Run _ _ _ _ _ _ _ _ _ _ _ _ Tl (mkF m 20 #[.val (.ref b), .val (.int (Int32.ofNat i)), .val (.ref t), .val (.int (Int32.ofNat i)), .val (.int (Int32.ofNat cs.length)), .val (.int (Int32.ofNat i)), .val (.int (cs.getD i 0))] [(.int (255 : Int32)), (.int (cs.getD i 0))])
      refine Run.via (fun _ => XS.icmpNo Xl.at Xl.ex rfl (Xl.de c5d_20) rfl (tlt hb.2.1).2.2.2) ?_
      show Run _ _ _ _ _ _ _ _ _ _ _ _ Tl (mkF m 23 #[.val (.ref b), .val (.int (Int32.ofNat i)), .val (.ref t), .val (.int (Int32.ofNat i)), .val (.int (Int32.ofNat cs.length)), .val (.int (Int32.ofNat i)), .val (.int (cs.getD i 0))] [])
      refine Run.via (fun _ => XS.iload Xl.at Xl.ex rfl (Xl.de c5d_23) rfl) ?_
      show Run _ _ _ _ _ _ _ _ _ _ _ _ Tl (mkF m 25 #[.val (.ref b), .val (.int (Int32.ofNat i)), .val (.ref t), .val (.int (Int32.ofNat i)), .val (.int (Int32.ofNat cs.length)), .val (.int (Int32.ofNat i)), .val (.int (cs.getD i 0))] [(.int (Int32.ofNat i))])
      exact Run.retI Xl rfl c5d_25 (Nat.le_of_ble_eq_true rfl) (Nat.le_of_ble_eq_true rfl) (rfl)
    | succ d ih =>
      intro i hd hi Tl hl Lq sl ds hsl Xl B2 A2 hds
      have hk := hb.1
      have hi' : i < cs.length := by omega
      refine Run.via (fun _ => XS.iload Xl.at Xl.ex rfl (Xl.de c5d_3) rfl) ?_
      show Run _ _ _ _ _ _ _ _ _ _ _ _ Tl (mkF m 5 #[.val (.ref b), .val (.int (Int32.ofNat i)), .val (.ref t), .val (.int (Int32.ofNat i)), .val (.int (Int32.ofNat cs.length)), .val (.int (Int32.ofNat i)), sl] [(.int (Int32.ofNat i))])
      refine Run.via (fun _ => XS.iload Xl.at Xl.ex rfl (Xl.de c5d_5) rfl) ?_
      show Run _ _ _ _ _ _ _ _ _ _ _ _ Tl (mkF m 7 #[.val (.ref b), .val (.int (Int32.ofNat i)), .val (.ref t), .val (.int (Int32.ofNat i)), .val (.int (Int32.ofNat cs.length)), .val (.int (Int32.ofNat i)), sl] [(.int (Int32.ofNat cs.length)), (.int (Int32.ofNat i))])
      refine Run.via (fun _ => XS.icmpNo Xl.at Xl.ex rfl (Xl.de c5d_7) rfl (tlt ((i32lt (by omega) (by omega)).mpr hi')).2.1) ?_
      show Run _ _ _ _ _ _ _ _ _ _ _ _ Tl (mkF m 10 #[.val (.ref b), .val (.int (Int32.ofNat i)), .val (.ref t), .val (.int (Int32.ofNat i)), .val (.int (Int32.ofNat cs.length)), .val (.int (Int32.ofNat i)), sl] [])
      refine Run.via (fun _ => XS.aloadN Xl.at Xl.ex rfl (Xl.de c5d_10) rfl rfl) ?_
      show Run _ _ _ _ _ _ _ _ _ _ _ _ Tl (mkF m 11 #[.val (.ref b), .val (.int (Int32.ofNat i)), .val (.ref t), .val (.int (Int32.ofNat i)), .val (.int (Int32.ofNat cs.length)), .val (.int (Int32.ofNat i)), sl] [(.ref b)])
      refine Run.via (fun _ => XS.iloadN Xl.at Xl.ex rfl (Xl.de c5d_11) rfl) ?_
      show Run _ _ _ _ _ _ _ _ _ _ _ _ Tl (mkF m 12 #[.val (.ref b), .val (.int (Int32.ofNat i)), .val (.ref t), .val (.int (Int32.ofNat i)), .val (.int (Int32.ofNat cs.length)), .val (.int (Int32.ofNat i)), sl] [(.int (Int32.ofNat i)), (.ref b)])
      refine Run.caload Xl (i := i) B2 rfl hi' c5d_12 ?_
      show Run _ _ _ _ _ _ _ _ _ _ _ _ Tl (mkF m 13 #[.val (.ref b), .val (.int (Int32.ofNat i)), .val (.ref t), .val (.int (Int32.ofNat i)), .val (.int (Int32.ofNat cs.length)), .val (.int (Int32.ofNat i)), sl] [(.int (cs.getD i 0))])
      refine Run.via (fun _ => XS.istoreS Xl.at Xl.ex rfl (Xl.de c5d_13) rfl rfl hsl) ?_
      show Run _ _ _ _ _ _ _ _ _ _ _ _ Tl (mkF m 15 #[.val (.ref b), .val (.int (Int32.ofNat i)), .val (.ref t), .val (.int (Int32.ofNat i)), .val (.int (Int32.ofNat cs.length)), .val (.int (Int32.ofNat i)), .val (.int (cs.getD i 0))] [])
      refine Run.via (fun _ => XS.iload Xl.at Xl.ex rfl (Xl.de c5d_15) rfl) ?_
      show Run _ _ _ _ _ _ _ _ _ _ _ _ Tl (mkF m 17 #[.val (.ref b), .val (.int (Int32.ofNat i)), .val (.ref t), .val (.int (Int32.ofNat i)), .val (.int (Int32.ofNat cs.length)), .val (.int (Int32.ofNat i)), .val (.int (cs.getD i 0))] [(.int (cs.getD i 0))])
      refine Run.via (fun _ => XS.sipush Xl.at Xl.ex rfl (Xl.de c5d_17)) ?_
      show Run _ _ _ _ _ _ _ _ _ _ _ _ Tl (mkF m 20 #[.val (.ref b), .val (.int (Int32.ofNat i)), .val (.ref t), .val (.int (Int32.ofNat i)), .val (.int (Int32.ofNat cs.length)), .val (.int (Int32.ofNat i)), .val (.int (cs.getD i 0))] [(.int (255 : Int32)), (.int (cs.getD i 0))])
      refine Run.via (fun _ => XS.icmpYes Xl.at Xl.ex rfl (pc0 := 20) (pc' := 26) rfl (Xl.de c5d_20) rfl (flt (hb.2.2 i (by omega))).2.2.2 (by decide) (by decide)) ?_
      show Run _ _ _ _ _ _ _ _ _ _ _ _ Tl (mkF m 26 #[.val (.ref b), .val (.int (Int32.ofNat i)), .val (.ref t), .val (.int (Int32.ofNat i)), .val (.int (Int32.ofNat cs.length)), .val (.int (Int32.ofNat i)), .val (.int (cs.getD i 0))] [])
      refine Run.via (fun _ => XS.aloadN Xl.at Xl.ex rfl (Xl.de c5d_26) rfl rfl) ?_
      show Run _ _ _ _ _ _ _ _ _ _ _ _ Tl (mkF m 27 #[.val (.ref b), .val (.int (Int32.ofNat i)), .val (.ref t), .val (.int (Int32.ofNat i)), .val (.int (Int32.ofNat cs.length)), .val (.int (Int32.ofNat i)), .val (.int (cs.getD i 0))] [(.ref t)])
      refine Run.via (fun _ => XS.iloadN Xl.at Xl.ex rfl (Xl.de c5d_27) rfl) ?_
      show Run _ _ _ _ _ _ _ _ _ _ _ _ Tl (mkF m 28 #[.val (.ref b), .val (.int (Int32.ofNat i)), .val (.ref t), .val (.int (Int32.ofNat i)), .val (.int (Int32.ofNat cs.length)), .val (.int (Int32.ofNat i)), .val (.int (cs.getD i 0))] [(.int (Int32.ofNat i)), (.ref t)])
      refine Run.via (fun _ => XS.iload Xl.at Xl.ex rfl (Xl.de c5d_28) rfl) ?_
      show Run _ _ _ _ _ _ _ _ _ _ _ _ Tl (mkF m 30 #[.val (.ref b), .val (.int (Int32.ofNat i)), .val (.ref t), .val (.int (Int32.ofNat i)), .val (.int (Int32.ofNat cs.length)), .val (.int (Int32.ofNat i)), .val (.int (cs.getD i 0))] [(.int (cs.getD i 0)), (.int (Int32.ofNat i)), (.ref t)])
      refine Run.via (fun _ => XS.i2b Xl.at Xl.ex rfl (Xl.de c5d_30) rfl) ?_
      show Run _ _ _ _ _ _ _ _ _ _ _ _ Tl (mkF m 31 #[.val (.ref b), .val (.int (Int32.ofNat i)), .val (.ref t), .val (.int (Int32.ofNat i)), .val (.int (Int32.ofNat cs.length)), .val (.int (Int32.ofNat i)), .val (.int (cs.getD i 0))] [(.int ((cs.getD i 0).toInt8.toInt32)), (.int (Int32.ofNat i)), (.ref t)])
      refine Run.bastore Xl (i := i) (v' := (StrChars.lo8 (cs.getD i 0))) A2 rfl (by omega) (nar_lo8 _) (Or.inl (List.mem_singleton.mpr rfl)) hz (by simp) c5d_31 ?_
      intro T101 h101 L101 X101 K101 z101 A101
      show Run _ _ _ _ _ _ _ _ _ _ _ _ T101 (mkF m 32 #[.val (.ref b), .val (.int (Int32.ofNat i)), .val (.ref t), .val (.int (Int32.ofNat i)), .val (.int (Int32.ofNat cs.length)), .val (.int (Int32.ofNat i)), .val (.int (cs.getD i 0))] [])
      have B3 := B2.keep K101 (ninS hbt nin0)
      refine Run.via (fun _ => XS.iinc X101.at X101.ex rfl (X101.de c5d_32) rfl (l' := #[.val (.ref b), .val (.int ((Int32.ofNat i) + (1 : Int32))), .val (.ref t), .val (.int (Int32.ofNat i)), .val (.int (Int32.ofNat cs.length)), .val (.int (Int32.ofNat i)), .val (.int (cs.getD i 0))]) rfl) ?_
      show Run _ _ _ _ _ _ _ _ _ _ _ _ T101 (mkF m 35 #[.val (.ref b), .val (.int ((Int32.ofNat i) + (1 : Int32))), .val (.ref t), .val (.int (Int32.ofNat i)), .val (.int (Int32.ofNat cs.length)), .val (.int (Int32.ofNat i)), .val (.int (cs.getD i 0))] [])
      refine Run.via (fun _ => XS.iinc X101.at X101.ex rfl (X101.de c5d_35) rfl (l' := #[.val (.ref b), .val (.int ((Int32.ofNat i) + (1 : Int32))), .val (.ref t), .val (.int ((Int32.ofNat i) + (1 : Int32))), .val (.int (Int32.ofNat cs.length)), .val (.int (Int32.ofNat i)), .val (.int (cs.getD i 0))]) rfl) ?_
      show Run _ _ _ _ _ _ _ _ _ _ _ _ T101 (mkF m 38 #[.val (.ref b), .val (.int ((Int32.ofNat i) + (1 : Int32))), .val (.ref t), .val (.int ((Int32.ofNat i) + (1 : Int32))), .val (.int (Int32.ofNat cs.length)), .val (.int (Int32.ofNat i)), .val (.int (cs.getD i 0))] [])
      refine Run.via (fun _ => XS.iinc X101.at X101.ex rfl (X101.de c5d_38) rfl (l' := #[.val (.ref b), .val (.int ((Int32.ofNat i) + (1 : Int32))), .val (.ref t), .val (.int ((Int32.ofNat i) + (1 : Int32))), .val (.int (Int32.ofNat cs.length)), .val (.int ((Int32.ofNat i) + (1 : Int32))), .val (.int (cs.getD i 0))]) rfl) ?_
      show Run _ _ _ _ _ _ _ _ _ _ _ _ T101 (mkF m 41 #[.val (.ref b), .val (.int ((Int32.ofNat i) + (1 : Int32))), .val (.ref t), .val (.int ((Int32.ofNat i) + (1 : Int32))), .val (.int (Int32.ofNat cs.length)), .val (.int ((Int32.ofNat i) + (1 : Int32))), .val (.int (cs.getD i 0))] [])
      refine Run.via (fun _ => XS.goto X101.at X101.ex rfl (pc0 := 41) (pc' := 3) rfl (X101.de c5d_41) (by decide) (by decide)) ?_
      show Run _ _ _ _ _ _ _ _ _ _ _ _ T101 (mkF m 3 #[.val (.ref b), .val (.int ((Int32.ofNat i) + (1 : Int32))), .val (.ref t), .val (.int ((Int32.ofNat i) + (1 : Int32))), .val (.int (Int32.ofNat cs.length)), .val (.int ((Int32.ofNat i) + (1 : Int32))), .val (.int (cs.getD i 0))] [])
      rw [i32succ (by omega)]
      exact ih (i + 1) (by omega) (by omega) _ _ _ _ _ (One.val rfl) X101 B3 A101 (by simpa using hds)
  exact loop k 0 (by omega) (by omega) _ _ _ _ _ One.u X0 B A hds
-- part con_c3
theorem c3d_0 : decode jdk_52_method_16_code 0 = .ok (.iload_n 2, 1) := by decide +kernel
theorem c3d_1 : decode jdk_52_method_16_code 1 = .ok (.newarray .byte, 2) := by decide +kernel
theorem c3d_3 : decode jdk_52_method_16_code 3 = .ok (.astore_n 3, 1) := by decide +kernel
theorem c3d_4 : decode jdk_52_method_16_code 4 = .ok (.aload_n 0, 1) := by decide +kernel
theorem c3d_5 : decode jdk_52_method_16_code 5 = .ok (.iload_n 1, 1) := by decide +kernel
theorem c3d_6 : decode jdk_52_method_16_code 6 = .ok (.aload_n 3, 1) := by decide +kernel
theorem c3d_7 : decode jdk_52_method_16_code 7 = .ok (.iconst 0, 1) := by decide +kernel
theorem c3d_8 : decode jdk_52_method_16_code 8 = .ok (.iload_n 2, 1) := by decide +kernel
theorem c3d_9 : decode jdk_52_method_16_code 9 = .ok (.invokestatic 115, 3) := by decide +kernel
theorem c3d_12 : decode jdk_52_method_16_code 12 = .ok (.istore 4, 2) := by decide +kernel
theorem c3d_14 : decode jdk_52_method_16_code 14 = .ok (.iload 4, 2) := by decide +kernel
theorem c3d_16 : decode jdk_52_method_16_code 16 = .ok (.iload_n 2, 1) := by decide +kernel
theorem c3d_17 : decode jdk_52_method_16_code 17 = .ok (.if_icmp .eq 40, 3) := by decide +kernel
theorem c3d_20 : decode jdk_52_method_16_code 20 = .ok (.aload_n 0, 1) := by decide +kernel
theorem c3d_21 : decode jdk_52_method_16_code 21 = .ok (.iload_n 1, 1) := by decide +kernel
theorem c3d_22 : decode jdk_52_method_16_code 22 = .ok (.iload_n 2, 1) := by decide +kernel
theorem c3d_23 : decode jdk_52_method_16_code 23 = .ok (.invokestatic 119, 3) := by decide +kernel
theorem c3d_26 : decode jdk_52_method_16_code 26 = .ok (.astore 5, 2) := by decide +kernel
theorem c3d_28 : decode jdk_52_method_16_code 28 = .ok (.aload 5, 2) := by decide +kernel
theorem c3d_30 : decode jdk_52_method_16_code 30 = .ok (.iload 4, 2) := by decide +kernel
theorem c3d_32 : decode jdk_52_method_16_code 32 = .ok (.invokestatic 71, 3) := by decide +kernel
theorem c3d_35 : decode jdk_52_method_16_code 35 = .ok (.sipush 255, 3) := by decide +kernel
theorem c3d_38 : decode jdk_52_method_16_code 38 = .ok (.if_icmp .gt 16, 3) := by decide +kernel
theorem c3d_54 : decode jdk_52_method_16_code 54 = .ok (.aload 5, 2) := by decide +kernel
theorem c3d_56 : decode jdk_52_method_16_code 56 = .ok (.areturn, 1) := by decide +kernel
set_option maxRecDepth 65536 in
set_option maxHeartbeats 40000000 in
theorem con_c3 (l : Launch) {Z : State} {a0 : Array Value} {EL : List (String × Nat)} {h0 : Heap} (hw : ∀ d ∈ tables_1, d.before a0 Z = true) (hU : Sets16 Z) {b : Addr} {cs : List Int32} {k : Nat} (hn : cs.length ≤ 4) (hb : big cs k) (B : Arc .char Z h0 b cs) (hr : ∀ c ∈ cs, ¬ c < 0 ∧ ¬ (65535 : Int32) < c) (O : Ext Z.heap h0) : Con l Z a0 EL false (⟨"java/lang/StringUTF16", "compress", "([CII)[B"⟩ : MethodName) jdk_52_method_16_code 6 (some (.array .byte)) ({ frames := 3, cells := 2, slots := 12, locals := 62 } : Room) [] [] #[(.ref b), (.int (Int32.ofNat 0)), (.int (Int32.ofNat cs.length))] h0 (fun v h => ∃ x, v = some (.ref x) ∧ h0.size ≤ x ∧ Arc .byte Z h x (wb cs)) := by
  refine Con.enter (plainFor_of_name (by first | (simp [plainName, overriddenIn]; done) | decide +kernel)) O ?_
  intro p e s m below meth c T0 X0
  rw [show entryFrame m #[(.ref b), (.int (Int32.ofNat 0)), (.int (Int32.ofNat cs.length))] 6 = (mkF m 0 #[.val (.ref b), .val (.int (Int32.ofNat 0)), .val (.int (Int32.ofNat cs.length)), .unset, .unset, .unset] []) from by first | (simp [entryFrame, mkF, argsToLocals, Value.category]; done) | rfl]
  have ho := O.1
  refine Run.via (fun _ => XS.iloadN X0.at X0.ex rfl (X0.de c3d_0) rfl) ?_
  show Run _ _ _ _ _ _ _ _ _ _ _ _ T0 (mkF m 1 #[.val (.ref b), .val (.int (Int32.ofNat 0)), .val (.int (Int32.ofNat cs.length)), .unset, .unset, .unset] [(.int (Int32.ofNat cs.length))])
  refine Run.newarr X0 (aty := .byte) (n := cs.length) (cap := 4) (wd hw 32 rfl) rfl c3d_1 rfl hn (by decide) (Nat.le_of_ble_eq_true rfl) (Nat.le_of_ble_eq_true rfl) ?_
  intro T101 h101 x101 g101 X101 K101 z101 A101
  show Run _ _ _ _ _ _ _ _ _ _ _ _ T101 (mkF m 3 #[.val (.ref b), .val (.int (Int32.ofNat 0)), .val (.int (Int32.ofNat cs.length)), .unset, .unset, .unset] [(.ref x101)])
  have gB := B.lt
  refine Run.via (fun _ => XS.astoreN X101.at X101.ex rfl (X101.de c3d_3) rfl rfl (l' := #[.val (.ref b), .val (.int (Int32.ofNat 0)), .val (.int (Int32.ofNat cs.length)), .val (.ref x101), .unset, .unset]) rfl) ?_
  show Run _ _ _ _ _ _ _ _ _ _ _ _ T101 (mkF m 4 #[.val (.ref b), .val (.int (Int32.ofNat 0)), .val (.int (Int32.ofNat cs.length)), .val (.ref x101), .unset, .unset] [])
  refine Run.via (fun _ => XS.aloadN X101.at X101.ex rfl (X101.de c3d_4) rfl rfl) ?_
  show Run _ _ _ _ _ _ _ _ _ _ _ _ T101 (mkF m 5 #[.val (.ref b), .val (.int (Int32.ofNat 0)), .val (.int (Int32.ofNat cs.length)), .val (.ref x101), .unset, .unset] [(.ref b)])
  refine Run.via (fun _ => XS.iloadN X101.at X101.ex rfl (X101.de c3d_5) rfl) ?_
  show Run _ _ _ _ _ _ _ _ _ _ _ _ T101 (mkF m 6 #[.val (.ref b), .val (.int (Int32.ofNat 0)), .val (.int (Int32.ofNat cs.length)), .val (.ref x101), .unset, .unset] [(.int (Int32.ofNat 0)), (.ref b)])
  refine Run.via (fun _ => XS.aloadN X101.at X101.ex rfl (X101.de c3d_6) rfl rfl) ?_
  show Run _ _ _ _ _ _ _ _ _ _ _ _ T101 (mkF m 7 #[.val (.ref b), .val (.int (Int32.ofNat 0)), .val (.int (Int32.ofNat cs.length)), .val (.ref x101), .unset, .unset] [(.ref x101), (.int (Int32.ofNat 0)), (.ref b)])
  refine Run.via (fun _ => XS.iconst X101.at X101.ex rfl (X101.de c3d_7)) ?_
  show Run _ _ _ _ _ _ _ _ _ _ _ _ T101 (mkF m 8 #[.val (.ref b), .val (.int (Int32.ofNat 0)), .val (.int (Int32.ofNat cs.length)), .val (.ref x101), .unset, .unset] [(.int (0 : Int32)), (.ref x101), (.int (Int32.ofNat 0)), (.ref b)])
  refine Run.via (fun _ => XS.iloadN X101.at X101.ex rfl (X101.de c3d_8) rfl) ?_
  show Run _ _ _ _ _ _ _ _ _ _ _ _ T101 (mkF m 9 #[.val (.ref b), .val (.int (Int32.ofNat 0)), .val (.int (Int32.ofNat cs.length)), .val (.ref x101), .unset, .unset] [(.int (Int32.ofNat cs.length)), (.int (0 : Int32)), (.ref x101), (.int (Int32.ofNat 0)), (.ref b)])
  refine Run.callS X101 (y := (⟨"java/lang/StringUTF16", "compress", "([CI[BII)I"⟩ : MethodName)) (W := 0) (con_c5 l hw hn hb (B.keep K101 nin0) A101 (by simp) (neA (by omega)) (by omega) X101.old) (wd hw 33 rfl) (wd hw 34 rfl) (wd hw 30 rfl) (wd hw 35 rfl) (by decide) pd___CI_BII_I rfl (argsL := [(.ref b), (.int (Int32.ofNat 0)), (.ref x101), (.int (0 : Int32)), (.int (Int32.ofNat cs.length))]) (rest := []) rfl (Nat.le_of_ble_eq_true rfl) rfl c3d_9 (by decide) (by decide) (Nat.le_of_ble_eq_true rfl) (Nat.le_of_ble_eq_true rfl) (fun y hy => by cases List.mem_singleton.mp hy; exact ⟨Or.inr (by omega), by omega⟩) (fun y hy => by cases List.mem_singleton.mp hy; simp) ?_
  intro v102 T102 h102 L102 q102 X102 XF102 K102
  obtain rfl := q102
  show Run _ _ _ _ _ _ _ _ _ _ _ _ T102 (mkF m 12 #[.val (.ref b), .val (.int (Int32.ofNat 0)), .val (.int (Int32.ofNat cs.length)), .val (.ref x101), .unset, .unset] [(.int (Int32.ofNat k))])
  have hk := hb.1
  have B2 := (B.keep K101 nin0).keep K102 (ninS (neA (by omega)) nin0)
  refine Run.via (fun _ => XS.istore X102.at X102.ex rfl (X102.de c3d_12) rfl (l' := #[.val (.ref b), .val (.int (Int32.ofNat 0)), .val (.int (Int32.ofNat cs.length)), .val (.ref x101), .val (.int (Int32.ofNat k)), .unset]) rfl) ?_
  show Run _ _ _ _ _ _ _ _ _ _ _ _ T102 (mkF m 14 #[.val (.ref b), .val (.int (Int32.ofNat 0)), .val (.int (Int32.ofNat cs.length)), .val (.ref x101), .val (.int (Int32.ofNat k)), .unset] [])
  refine Run.via (fun _ => XS.iload X102.at X102.ex rfl (X102.de c3d_14) rfl) ?_
  show Run _ _ _ _ _ _ _ _ _ _ _ _ T102 (mkF m 16 #[.val (.ref b), .val (.int (Int32.ofNat 0)), .val (.int (Int32.ofNat cs.length)), .val (.ref x101), .val (.int (Int32.ofNat k)), .unset] [(.int (Int32.ofNat k))])
  refine Run.via (fun _ => XS.iloadN X102.at X102.ex rfl (X102.de c3d_16) rfl) ?_
  show Run _ _ _ _ _ _ _ _ _ _ _ _ T102 (mkF m 17 #[.val (.ref b), .val (.int (Int32.ofNat 0)), .val (.int (Int32.ofNat cs.length)), .val (.ref x101), .val (.int (Int32.ofNat k)), .unset] [(.int (Int32.ofNat cs.length)), (.int (Int32.ofNat k))])
  refine Run.via (fun _ => XS.icmpNo X102.at X102.ex rfl (X102.de c3d_17) rfl (feq (fun q => by have := (i32eq (by omega) (by omega)).mp q; omega)).1) ?_
  show Run _ _ _ _ _ _ _ _ _ _ _ _ T102 (mkF m 20 #[.val (.ref b), .val (.int (Int32.ofNat 0)), .val (.int (Int32.ofNat cs.length)), .val (.ref x101), .val (.int (Int32.ofNat k)), .unset] [])
  refine Run.via (fun _ => XS.aloadN X102.at X102.ex rfl (X102.de c3d_20) rfl rfl) ?_
  show Run _ _ _ _ _ _ _ _ _ _ _ _ T102 (mkF m 21 #[.val (.ref b), .val (.int (Int32.ofNat 0)), .val (.int (Int32.ofNat cs.length)), .val (.ref x101), .val (.int (Int32.ofNat k)), .unset] [(.ref b)])
  refine Run.via (fun _ => XS.iloadN X102.at X102.ex rfl (X102.de c3d_21) rfl) ?_
  show Run _ _ _ _ _ _ _ _ _ _ _ _ T102 (mkF m 22 #[.val (.ref b), .val (.int (Int32.ofNat 0)), .val (.int (Int32.ofNat cs.length)), .val (.ref x101), .val (.int (Int32.ofNat k)), .unset] [(.int (Int32.ofNat 0)), (.ref b)])
  refine Run.via (fun _ => XS.iloadN X102.at X102.ex rfl (X102.de c3d_22) rfl) ?_
  show Run _ _ _ _ _ _ _ _ _ _ _ _ T102 (mkF m 23 #[.val (.ref b), .val (.int (Int32.ofNat 0)), .val (.int (Int32.ofNat cs.length)), .val (.ref x101), .val (.int (Int32.ofNat k)), .unset] [(.int (Int32.ofNat cs.length)), (.int (Int32.ofNat 0)), (.ref b)])
  have s1 := K101.1; have s2 := K102.1
  refine Run.callS X102 (y := (⟨"java/lang/StringUTF16", "toBytes", "([CII)[B"⟩ : MethodName)) (W := 0) (con_tb l hw hU hn B2 X102.old) (wd hw 36 rfl) (wd hw 37 rfl) (wd hw 30 rfl) (wd hw 38 rfl) (by decide) pd___CII__B rfl (argsL := [(.ref b), (.int (Int32.ofNat 0)), (.int (Int32.ofNat cs.length))]) (rest := []) rfl (Nat.le_of_ble_eq_true rfl) rfl c3d_23 (by decide) (by decide) (Nat.le_of_ble_eq_true rfl) (Nat.le_of_ble_eq_true rfl) (nofun) (nofun) ?_
  intro v103 T103 h103 L103 q103 X103 XF103 K103
  obtain ⟨x, rfl, gx, A4⟩ := q103
  show Run _ _ _ _ _ _ _ _ _ _ _ _ T103 (mkF m 26 #[.val (.ref b), .val (.int (Int32.ofNat 0)), .val (.int (Int32.ofNat cs.length)), .val (.ref x101), .val (.int (Int32.ofNat k)), .unset] [(.ref x)])
  refine Run.via (fun _ => XS.astore X103.at X103.ex rfl (X103.de c3d_26) rfl rfl (l' := #[.val (.ref b), .val (.int (Int32.ofNat 0)), .val (.int (Int32.ofNat cs.length)), .val (.ref x101), .val (.int (Int32.ofNat k)), .val (.ref x)]) rfl) ?_
  show Run _ _ _ _ _ _ _ _ _ _ _ _ T103 (mkF m 28 #[.val (.ref b), .val (.int (Int32.ofNat 0)), .val (.int (Int32.ofNat cs.length)), .val (.ref x101), .val (.int (Int32.ofNat k)), .val (.ref x)] [])
  refine Run.via (fun _ => XS.aload X103.at X103.ex rfl (X103.de c3d_28) rfl rfl) ?_
  show Run _ _ _ _ _ _ _ _ _ _ _ _ T103 (mkF m 30 #[.val (.ref b), .val (.int (Int32.ofNat 0)), .val (.int (Int32.ofNat cs.length)), .val (.ref x101), .val (.int (Int32.ofNat k)), .val (.ref x)] [(.ref x)])
  refine Run.via (fun _ => XS.iload X103.at X103.ex rfl (X103.de c3d_30) rfl) ?_
  show Run _ _ _ _ _ _ _ _ _ _ _ _ T103 (mkF m 32 #[.val (.ref b), .val (.int (Int32.ofNat 0)), .val (.int (Int32.ofNat cs.length)), .val (.ref x101), .val (.int (Int32.ofNat k)), .val (.ref x)] [(.int (Int32.ofNat k)), (.ref x)])
  refine Run.callS X103 (y := (⟨"java/lang/StringUTF16", "getChar", "([BI)C"⟩ : MethodName)) (W := 0) (con_gc l hw hU hn hk A4 hr X103.old) (wd hw 52 rfl) (wd hw 53 rfl) (wd hw 30 rfl) (wd hw 54 rfl) (by decide) pd___BI_C rfl (argsL := [(.ref x), (.int (Int32.ofNat k))]) (rest := []) rfl (Nat.le_of_ble_eq_true rfl) rfl c3d_32 (by decide) (by decide) (Nat.le_of_ble_eq_true rfl) (Nat.le_of_ble_eq_true rfl) (nofun) (nofun) ?_
  intro v104 T104 h104 L104 q104 X104 XF104 K104
  obtain ⟨rfl, rfl⟩ := q104
  show Run _ _ _ _ _ _ _ _ _ _ _ _ T104 (mkF m 35 #[.val (.ref b), .val (.int (Int32.ofNat 0)), .val (.int (Int32.ofNat cs.length)), .val (.ref x101), .val (.int (Int32.ofNat k)), .val (.ref x)] [(.int (cs.getD k 0))])
  refine Run.via (fun _ => XS.sipush X104.at X104.ex rfl (X104.de c3d_35)) ?_
  show Run _ _ _ _ _ _ _ _ _ _ _ _ T104 (mkF m 38 #[.val (.ref b), .val (.int (Int32.ofNat 0)), .val (.int (Int32.ofNat cs.length)), .val (.ref x101), .val (.int (Int32.ofNat k)), .val (.ref x)] [(.int (255 : Int32)), (.int (cs.getD k 0))])
  refine Run.via (fun _ => XS.icmpYes X104.at X104.ex rfl (pc0 := 38) (pc' := 54) rfl (X104.de c3d_38) rfl (tlt hb.2.1).2.2.1 (by decide) (by decide)) ?_
  show Run _ _ _ _ _ _ _ _ _ _ _ _ T104 (mkF m 54 #[.val (.ref b), .val (.int (Int32.ofNat 0)), .val (.int (Int32.ofNat cs.length)), .val (.ref x101), .val (.int (Int32.ofNat k)), .val (.ref x)] [])
  refine Run.via (fun _ => XS.aload X104.at X104.ex rfl (X104.de c3d_54) rfl rfl) ?_
  show Run _ _ _ _ _ _ _ _ _ _ _ _ T104 (mkF m 56 #[.val (.ref b), .val (.int (Int32.ofNat 0)), .val (.int (Int32.ofNat cs.length)), .val (.ref x101), .val (.int (Int32.ofNat k)), .val (.ref x)] [(.ref x)])
  exact Run.retA X104 (t := (.array .byte)) rfl rfl rfl c3d_56 (Nat.le_of_ble_eq_true rfl) (Nat.le_of_ble_eq_true rfl) (⟨x, rfl, by omega, A4⟩) (nofun)
-- part con_cf
theorem cfd_0 : decode jdk_52_method_15_code 0 = .ok (.iload_n 1, 1) := by decide +kernel
theorem cfd_1 : decode jdk_52_method_15_code 1 = .ok (.aload_n 0, 1) := by decide +kernel
theorem cfd_2 : decode jdk_52_method_15_code 2 = .ok (.arraylength, 1) := by decide +kernel
theorem cfd_3 : decode jdk_52_method_15_code 3 = .ok (.isub, 1) := by decide +kernel
theorem cfd_4 : decode jdk_52_method_15_code 4 = .ok (.bipush 31, 2) := by decide +kernel
theorem cfd_6 : decode jdk_52_method_15_code 6 = .ok (.iushr, 1) := by decide +kernel
theorem cfd_7 : decode jdk_52_method_15_code 7 = .ok (.i2b, 1) := by decide +kernel
theorem cfd_8 : decode jdk_52_method_15_code 8 = .ok (.ireturn, 1) := by decide +kernel
set_option maxRecDepth 65536 in
set_option maxHeartbeats 40000000 in
theorem con_cf (l : Launch) {Z : State} {a0 : Array Value} {EL : List (String × Nat)} {h0 : Heap} (hw : ∀ d ∈ tables_1, d.before a0 Z = true) {t : Addr} {cs : List Int32} (h1 : 0 < cs.length) (hn : cs.length ≤ 4) (A : Arc .byte Z h0 t (wb cs)) (O : Ext Z.heap h0) : Con l Z a0 EL false (⟨"java/lang/StringUTF16", "coderFromArrayLen", "([BI)B"⟩ : MethodName) jdk_52_method_15_code 2 (some .byte) ({ frames := 0, cells := 0, slots := 0, locals := 0 } : Room) [] [] #[(.ref t), (.int (Int32.ofNat cs.length))] h0 (fun v h => v = some (.int 1) ∧ h0 = h) := by
  refine Con.enter (plainFor_of_name (by first | (simp [plainName, overriddenIn]; done) | decide +kernel)) O ?_
  intro p e s m below meth c T0 X0
  rw [show entryFrame m #[(.ref t), (.int (Int32.ofNat cs.length))] 2 = (mkF m 0 #[.val (.ref t), .val (.int (Int32.ofNat cs.length))] []) from by first | (simp [entryFrame, mkF, argsToLocals, Value.category]; done) | rfl]
  refine Run.via (fun _ => XS.iloadN X0.at X0.ex rfl (X0.de cfd_0) rfl) ?_
  show Run _ _ _ _ _ _ _ _ _ _ _ _ T0 (mkF m 1 #[.val (.ref t), .val (.int (Int32.ofNat cs.length))] [(.int (Int32.ofNat cs.length))])
  refine Run.via (fun _ => XS.aloadN X0.at X0.ex rfl (X0.de cfd_1) rfl rfl) ?_
  show Run _ _ _ _ _ _ _ _ _ _ _ _ T0 (mkF m 2 #[.val (.ref t), .val (.int (Int32.ofNat cs.length))] [(.ref t), (.int (Int32.ofNat cs.length))])
  refine Run.alen X0 A cfd_2 ?_
  show Run _ _ _ _ _ _ _ _ _ _ _ _ T0 (mkF m 3 #[.val (.ref t), .val (.int (Int32.ofNat cs.length))] [(.int (Int32.ofNat (wb cs).length)), (.int (Int32.ofNat cs.length))])
  refine Run.via (fun _ => XS.isub X0.at X0.ex rfl (X0.de cfd_3) rfl) ?_
  show Run _ _ _ _ _ _ _ _ _ _ _ _ T0 (mkF m 4 #[.val (.ref t), .val (.int (Int32.ofNat cs.length))] [(.int ((Int32.ofNat cs.length) - (Int32.ofNat (wb cs).length)))])
  refine Run.via (fun _ => XS.bipush X0.at X0.ex rfl (X0.de cfd_4)) ?_
  show Run _ _ _ _ _ _ _ _ _ _ _ _ T0 (mkF m 6 #[.val (.ref t), .val (.int (Int32.ofNat cs.length))] [(.int (31 : Int32)), (.int ((Int32.ofNat cs.length) - (Int32.ofNat (wb cs).length)))])
  refine Run.via (fun _ => XS.iushr X0.at X0.ex rfl (X0.de cfd_6) rfl) ?_
  show Run _ _ _ _ _ _ _ _ _ _ _ _ T0 (mkF m 7 #[.val (.ref t), .val (.int (Int32.ofNat cs.length))] [(.int ((((Int32.ofNat cs.length) - (Int32.ofNat (wb cs).length)).toUInt32 >>> ((31 : Int32) &&& 31).toUInt32).toInt32))])
  refine Run.via (fun _ => XS.i2b X0.at X0.ex rfl (X0.de cfd_7) rfl) ?_
  show Run _ _ _ _ _ _ _ _ _ _ _ _ T0 (mkF m 8 #[.val (.ref t), .val (.int (Int32.ofNat cs.length))] [(.int (((((Int32.ofNat cs.length) - (Int32.ofNat (wb cs).length)).toUInt32 >>> ((31 : Int32) &&& 31).toUInt32).toInt32).toInt8.toInt32))])
  exact Run.retN X0 (t := .byte) rfl (by simp) cfd_8 (Nat.le_of_ble_eq_true rfl) (Nat.le_of_ble_eq_true rfl) (⟨by rw [wb_len]; exact congrArg (fun z => some (Value.int z)) (cal1 h1 hn), rfl⟩)
-- part con_v4
theorem v4d_0 : decode jdk_42_method_149_code 0 = .ok (.aload_n 0, 1) := by decide +kernel
theorem v4d_1 : decode jdk_42_method_149_code 1 = .ok (.invokespecial 1, 3) := by decide +kernel
theorem v4d_4 : decode jdk_42_method_149_code 4 = .ok (.iload_n 3, 1) := by decide +kernel
theorem v4d_5 : decode jdk_42_method_149_code 5 = .ok (.ifCond .ne 22, 3) := by decide +kernel
theorem v4d_27 : decode jdk_42_method_149_code 27 = .ok (.getstatic 38, 3) := by decide +kernel
theorem v4d_30 : decode jdk_42_method_149_code 30 = .ok (.ifCond .eq 28, 3) := by decide +kernel
theorem v4d_33 : decode jdk_42_method_149_code 33 = .ok (.aload_n 1, 1) := by decide +kernel
theorem v4d_34 : decode jdk_42_method_149_code 34 = .ok (.iload_n 2, 1) := by decide +kernel
theorem v4d_35 : decode jdk_42_method_149_code 35 = .ok (.iload_n 3, 1) := by decide +kernel
theorem v4d_36 : decode jdk_42_method_149_code 36 = .ok (.invokestatic 177, 3) := by decide +kernel
theorem v4d_39 : decode jdk_42_method_149_code 39 = .ok (.astore 5, 2) := by decide +kernel
theorem v4d_41 : decode jdk_42_method_149_code 41 = .ok (.aload_n 0, 1) := by decide +kernel
theorem v4d_42 : decode jdk_42_method_149_code 42 = .ok (.aload 5, 2) := by decide +kernel
theorem v4d_44 : decode jdk_42_method_149_code 44 = .ok (.iload_n 3, 1) := by decide +kernel
theorem v4d_45 : decode jdk_42_method_149_code 45 = .ok (.invokestatic 47, 3) := by decide +kernel
theorem v4d_48 : decode jdk_42_method_149_code 48 = .ok (.putfield 15, 3) := by decide +kernel
theorem v4d_51 : decode jdk_42_method_149_code 51 = .ok (.aload_n 0, 1) := by decide +kernel
theorem v4d_52 : decode jdk_42_method_149_code 52 = .ok (.aload 5, 2) := by decide +kernel
theorem v4d_54 : decode jdk_42_method_149_code 54 = .ok (.putfield 9, 3) := by decide +kernel
theorem v4d_57 : decode jdk_42_method_149_code 57 = .ok (.return_, 1) := by decide +kernel
set_option maxRecDepth 65536 in
set_option maxHeartbeats 40000000 in
theorem con_v4 (l : Launch) {Z : State} {a0 : Array Value} {EL : List (String × Nat)} {h0 : Heap} (hw : ∀ d ∈ tables_1, d.before a0 Z = true) (hS : Sets Z) (hU : Sets16 Z) {xa b : Addr} {cs : List Int32} {k : Nat} (hn : cs.length ≤ 4) (hb : big cs k) (B : Arc .char Z h0 b cs) (hr : ∀ c ∈ cs, ¬ c < 0 ∧ ¬ (65535 : Int32) < c) (G : Raw Z h0 xa) (hz : Z.heap.size ≤ xa) (O : Ext Z.heap h0) : Con l Z a0 EL false (⟨"java/lang/String", "<init>", "([CIILjava/lang/Void;)V"⟩ : MethodName) jdk_42_method_149_code 6 none ({ frames := 4, cells := 2, slots := 12, locals := 82 } : Room) [xa] [xa] #[(.ref xa), (.ref b), (.int (Int32.ofNat 0)), (.int (Int32.ofNat cs.length)), .null] h0 (fun v h => v = none ∧ Str Z h xa cs) := by
  refine Con.enter (plainFor_of_name (by first | (simp [plainName, overriddenIn]; done) | decide +kernel)) O ?_
  intro p e s m below meth c T0 X0
  rw [show entryFrame m #[(.ref xa), (.ref b), (.int (Int32.ofNat 0)), (.int (Int32.ofNat cs.length)), .null] 6 = (mkF m 0 #[.val (.ref xa), .val (.ref b), .val (.int (Int32.ofNat 0)), .val (.int (Int32.ofNat cs.length)), .val .null, .unset] []) from by first | (simp [entryFrame, mkF, argsToLocals, Value.category]; done) | rfl]
  refine Run.via (fun _ => XS.aloadN X0.at X0.ex rfl (X0.de v4d_0) rfl rfl) ?_
  show Run _ _ _ _ _ _ _ _ _ _ _ _ T0 (mkF m 1 #[.val (.ref xa), .val (.ref b), .val (.int (Int32.ofNat 0)), .val (.int (Int32.ofNat cs.length)), .val .null, .unset] [(.ref xa)])
  refine Run.initO X0 (wd hw 24 rfl) (wd hw 25 rfl) (wd hw 26 rfl) rfl v4d_1 (by decide) (Nat.le_of_ble_eq_true rfl) ?_
  intro T101 X101
  show Run _ _ _ _ _ _ _ _ _ _ _ _ T101 (mkF m 4 #[.val (.ref xa), .val (.ref b), .val (.int (Int32.ofNat 0)), .val (.int (Int32.ofNat cs.length)), .val .null, .unset] [])
  refine Run.via (fun _ => XS.iloadN X101.at X101.ex rfl (X101.de v4d_4) rfl) ?_
  show Run _ _ _ _ _ _ _ _ _ _ _ _ T101 (mkF m 5 #[.val (.ref xa), .val (.ref b), .val (.int (Int32.ofNat 0)), .val (.int (Int32.ofNat cs.length)), .val .null, .unset] [(.int (Int32.ofNat cs.length))])
  have hk := hb.1
  have ho := O.1
  obtain ⟨zz, fm, S1, S2, S3, S4⟩ := hS
  refine Run.via (fun _ => XS.ifYes X101.at X101.ex rfl (pc0 := 5) (pc' := 27) rfl (X101.de v4d_5) rfl ((if0 _ _).trans (feq (fun q => by have := (i32eq (a := cs.length) (b := 0) (by omega) (by omega)).mp q; omega)).2) (by decide) (by decide)) ?_
  show Run _ _ _ _ _ _ _ _ _ _ _ _ T101 (mkF m 27 #[.val (.ref xa), .val (.ref b), .val (.int (Int32.ofNat 0)), .val (.int (Int32.ofNat cs.length)), .val .null, .unset] [])
  refine Run.gets X101 (wd hw 27 rfl) Via.refl S1 v4d_27 ?_
  intro T102 X102
  show Run _ _ _ _ _ _ _ _ _ _ _ _ T102 (mkF m 30 #[.val (.ref xa), .val (.ref b), .val (.int (Int32.ofNat 0)), .val (.int (Int32.ofNat cs.length)), .val .null, .unset] [(.int zz)])
  refine Run.via (fun _ => XS.ifNo X102.at X102.ex rfl (X102.de v4d_30) rfl ((if0 _ _).trans (feq S2).1)) ?_
  show Run _ _ _ _ _ _ _ _ _ _ _ _ T102 (mkF m 33 #[.val (.ref xa), .val (.ref b), .val (.int (Int32.ofNat 0)), .val (.int (Int32.ofNat cs.length)), .val .null, .unset] [])
  refine Run.via (fun _ => XS.aloadN X102.at X102.ex rfl (X102.de v4d_33) rfl rfl) ?_
  show Run _ _ _ _ _ _ _ _ _ _ _ _ T102 (mkF m 34 #[.val (.ref xa), .val (.ref b), .val (.int (Int32.ofNat 0)), .val (.int (Int32.ofNat cs.length)), .val .null, .unset] [(.ref b)])
  refine Run.via (fun _ => XS.iloadN X102.at X102.ex rfl (X102.de v4d_34) rfl) ?_
  show Run _ _ _ _ _ _ _ _ _ _ _ _ T102 (mkF m 35 #[.val (.ref xa), .val (.ref b), .val (.int (Int32.ofNat 0)), .val (.int (Int32.ofNat cs.length)), .val .null, .unset] [(.int (Int32.ofNat 0)), (.ref b)])
  refine Run.via (fun _ => XS.iloadN X102.at X102.ex rfl (X102.de v4d_35) rfl) ?_
  show Run _ _ _ _ _ _ _ _ _ _ _ _ T102 (mkF m 36 #[.val (.ref xa), .val (.ref b), .val (.int (Int32.ofNat 0)), .val (.int (Int32.ofNat cs.length)), .val .null, .unset] [(.int (Int32.ofNat cs.length)), (.int (Int32.ofNat 0)), (.ref b)])
  refine Run.callS X102 (y := (⟨"java/lang/StringUTF16", "compress", "([CII)[B"⟩ : MethodName)) (W := 0) (con_c3 l hw hU hn hb B hr X102.old) (wd hw 28 rfl) (wd hw 29 rfl) (wd hw 30 rfl) (wd hw 31 rfl) (by decide) pd___CII__B rfl (argsL := [(.ref b), (.int (Int32.ofNat 0)), (.int (Int32.ofNat cs.length))]) (rest := []) rfl (Nat.le_of_ble_eq_true rfl) rfl v4d_36 (by decide) (by decide) (Nat.le_of_ble_eq_true rfl) (Nat.le_of_ble_eq_true rfl) (nofun) (nofun) ?_
  intro v103 T103 h103 L103 q103 X103 XF103 K103
  obtain ⟨x, rfl, gx, A1⟩ := q103
  show Run _ _ _ _ _ _ _ _ _ _ _ _ T103 (mkF m 39 #[.val (.ref xa), .val (.ref b), .val (.int (Int32.ofNat 0)), .val (.int (Int32.ofNat cs.length)), .val .null, .unset] [(.ref x)])
  refine Run.via (fun _ => XS.astore X103.at X103.ex rfl (X103.de v4d_39) rfl rfl (l' := #[.val (.ref xa), .val (.ref b), .val (.int (Int32.ofNat 0)), .val (.int (Int32.ofNat cs.length)), .val .null, .val (.ref x)]) rfl) ?_
  show Run _ _ _ _ _ _ _ _ _ _ _ _ T103 (mkF m 41 #[.val (.ref xa), .val (.ref b), .val (.int (Int32.ofNat 0)), .val (.int (Int32.ofNat cs.length)), .val .null, .val (.ref x)] [])
  refine Run.via (fun _ => XS.aloadN X103.at X103.ex rfl (X103.de v4d_41) rfl rfl) ?_
  show Run _ _ _ _ _ _ _ _ _ _ _ _ T103 (mkF m 42 #[.val (.ref xa), .val (.ref b), .val (.int (Int32.ofNat 0)), .val (.int (Int32.ofNat cs.length)), .val .null, .val (.ref x)] [(.ref xa)])
  refine Run.via (fun _ => XS.aload X103.at X103.ex rfl (X103.de v4d_42) rfl rfl) ?_
  show Run _ _ _ _ _ _ _ _ _ _ _ _ T103 (mkF m 44 #[.val (.ref xa), .val (.ref b), .val (.int (Int32.ofNat 0)), .val (.int (Int32.ofNat cs.length)), .val .null, .val (.ref x)] [(.ref x), (.ref xa)])
  refine Run.via (fun _ => XS.iloadN X103.at X103.ex rfl (X103.de v4d_44) rfl) ?_
  show Run _ _ _ _ _ _ _ _ _ _ _ _ T103 (mkF m 45 #[.val (.ref xa), .val (.ref b), .val (.int (Int32.ofNat 0)), .val (.int (Int32.ofNat cs.length)), .val .null, .val (.ref x)] [(.int (Int32.ofNat cs.length)), (.ref x), (.ref xa)])
  refine Run.callS X103 (y := (⟨"java/lang/StringUTF16", "coderFromArrayLen", "([BI)B"⟩ : MethodName)) (W := 1) (con_cf l hw (by omega) hn A1 X103.old) (wd hw 55 rfl) (wd hw 56 rfl) (wd hw 30 rfl) (wd hw 57 rfl) (by decide) pd___BI_B rfl (argsL := [(.ref x), (.int (Int32.ofNat cs.length))]) (rest := [(.ref xa)]) rfl (Nat.le_of_ble_eq_true rfl) rfl v4d_45 (by decide) (by decide) (Nat.le_of_ble_eq_true rfl) (Nat.le_of_ble_eq_true rfl) (nofun) (nofun) ?_
  intro v104 T104 h104 L104 q104 X104 XF104 K104
  obtain ⟨rfl, rfl⟩ := q104
  show Run _ _ _ _ _ _ _ _ _ _ _ _ T104 (mkF m 48 #[.val (.ref xa), .val (.ref b), .val (.int (Int32.ofNat 0)), .val (.int (Int32.ofNat cs.length)), .val .null, .val (.ref x)] [(.int (1 : Int32)), (.ref xa)])
  have G1 := G.keep K103 nin0
  refine Run.putf X104 (wd hw 58 rfl) Via.refl G1.2.2 G1.1 (Or.inr ⟨(wd hw 59 rfl), rfl, rfl⟩) (wd hw 15 rfl) (ty := .byte) (v' := (.int (1 : Int32))) (by decide) rfl rfl (Or.inl (List.mem_singleton.mpr rfl)) hz (Or.inr (by simp)) v4d_48 ?_
  intro T105 h105 L105 X105 K105 W105 F105 E105
  show Run _ _ _ _ _ _ _ _ _ _ _ _ T105 (mkF m 51 #[.val (.ref xa), .val (.ref b), .val (.int (Int32.ofNat 0)), .val (.int (Int32.ofNat cs.length)), .val .null, .val (.ref x)] [])
  have F0 := (G1.2.1.other W105 (Or.inr (slot_ne (Or.inr (wd hw 61 rfl)) (Or.inr (wd hw 59 rfl)) (by decide) (t := (.array .byte)) (t' := .byte) (by decide) (by decide))))
  obtain ⟨kx, Vx, hx4⟩ := A1
  have nx : x ≠ xa := Ne.symm (G1.1.neArv Vx (wd hw 15 rfl))
  have V1 := Vx.keep K105 (ninS nx nin0)
  refine Run.via (fun _ => XS.aloadN X105.at X105.ex rfl (X105.de v4d_51) rfl rfl) ?_
  show Run _ _ _ _ _ _ _ _ _ _ _ _ T105 (mkF m 52 #[.val (.ref xa), .val (.ref b), .val (.int (Int32.ofNat 0)), .val (.int (Int32.ofNat cs.length)), .val .null, .val (.ref x)] [(.ref xa)])
  refine Run.via (fun _ => XS.aload X105.at X105.ex rfl (X105.de v4d_52) rfl rfl) ?_
  show Run _ _ _ _ _ _ _ _ _ _ _ _ T105 (mkF m 54 #[.val (.ref xa), .val (.ref b), .val (.int (Int32.ofNat 0)), .val (.int (Int32.ofNat cs.length)), .val .null, .val (.ref x)] [(.ref x), (.ref xa)])
  refine Run.putf X105 (wd hw 60 rfl) Via.refl F0 E105 (Or.inr ⟨(wd hw 61 rfl), rfl, rfl⟩) (wd hw 15 rfl) (ty := (.array .byte)) (v' := (.ref x)) (by decide) rfl rfl (Or.inl (List.mem_singleton.mpr rfl)) hz (Or.inr (by simp)) v4d_54 ?_
  intro T106 h106 L106 X106 K106 W106 F106 E106
  show Run _ _ _ _ _ _ _ _ _ _ _ _ T106 (mkF m 57 #[.val (.ref xa), .val (.ref b), .val (.int (Int32.ofNat 0)), .val (.int (Int32.ofNat cs.length)), .val .null, .val (.ref x)] [])
  have C1 := (F105.other W106 (Or.inr (slot_ne (Or.inr (wd hw 59 rfl)) (Or.inr (wd hw 61 rfl)) (by decide) (t := .byte) (t' := (.array .byte)) (by decide) (by decide))))
  have V2 := V1.keep K106 (ninS nx nin0)
  exact Run.retV X106 rfl v4d_57 (Nat.le_of_ble_eq_true rfl) (Nat.le_of_ble_eq_true rfl) (⟨rfl, E106, x, kx, 1, _, _, F106, C1, V2, Or.inr ⟨rfl, by rw [wb_len], wb_map cs, _, mem_getD hk, hb.2.1⟩, hr, by omega⟩)
-- part con_v1
theorem v1d_0 : decode jdk_42_method_3_code 0 = .ok (.aload_n 0, 1) := by decide +kernel
theorem v1d_1 : decode jdk_42_method_3_code 1 = .ok (.aload_n 1, 1) := by decide +kernel
theorem v1d_2 : decode jdk_42_method_3_code 2 = .ok (.iconst 0, 1) := by decide +kernel
theorem v1d_3 : decode jdk_42_method_3_code 3 = .ok (.aload_n 1, 1) := by decide +kernel
theorem v1d_4 : decode jdk_42_method_3_code 4 = .ok (.arraylength, 1) := by decide +kernel
theorem v1d_5 : decode jdk_42_method_3_code 5 = .ok (.aconst_null, 1) := by decide +kernel
theorem v1d_6 : decode jdk_42_method_3_code 6 = .ok (.invokespecial 27, 3) := by decide +kernel
theorem v1d_9 : decode jdk_42_method_3_code 9 = .ok (.return_, 1) := by decide +kernel
set_option maxRecDepth 65536 in
set_option maxHeartbeats 40000000 in
theorem con_v1 (l : Launch) {Z : State} {a0 : Array Value} {EL : List (String × Nat)} {h0 : Heap} (hw : ∀ d ∈ tables_1, d.before a0 Z = true) (hS : Sets Z) (hU : Sets16 Z) {xa b : Addr} {cs : List Int32} {k : Nat} (hn : cs.length ≤ 4) (hb : big cs k) (B : Arc .char Z h0 b cs) (hr : ∀ c ∈ cs, ¬ c < 0 ∧ ¬ (65535 : Int32) < c) (G : Raw Z h0 xa) (hz : Z.heap.size ≤ xa) (O : Ext Z.heap h0) : Con l Z a0 EL false (⟨"java/lang/String", "<init>", "([C)V"⟩ : MethodName) jdk_42_method_3_code 2 none ({ frames := 5, cells := 2, slots := 12, locals := 101 } : Room) [xa] [xa] #[(.ref xa), (.ref b)] h0 (fun v h => v = none ∧ Str Z h xa cs) := by
  refine Con.enter (plainFor_of_name (by first | (simp [plainName, overriddenIn]; done) | decide +kernel)) O ?_
  intro p e s m below meth c T0 X0
  rw [show entryFrame m #[(.ref xa), (.ref b)] 2 = (mkF m 0 #[.val (.ref xa), .val (.ref b)] []) from by first | (simp [entryFrame, mkF, argsToLocals, Value.category]; done) | rfl]
  refine Run.via (fun _ => XS.aloadN X0.at X0.ex rfl (X0.de v1d_0) rfl rfl) ?_
  show Run _ _ _ _ _ _ _ _ _ _ _ _ T0 (mkF m 1 #[.val (.ref xa), .val (.ref b)] [(.ref xa)])
  refine Run.via (fun _ => XS.aloadN X0.at X0.ex rfl (X0.de v1d_1) rfl rfl) ?_
  show Run _ _ _ _ _ _ _ _ _ _ _ _ T0 (mkF m 2 #[.val (.ref xa), .val (.ref b)] [(.ref b), (.ref xa)])
  refine Run.via (fun _ => XS.iconst X0.at X0.ex rfl (X0.de v1d_2)) ?_
  show Run _ _ _ _ _ _ _ _ _ _ _ _ T0 (mkF m 3 #[.val (.ref xa), .val (.ref b)] [(.int (0 : Int32)), (.ref b), (.ref xa)])
  refine Run.via (fun _ => XS.aloadN X0.at X0.ex rfl (X0.de v1d_3) rfl rfl) ?_
  show Run _ _ _ _ _ _ _ _ _ _ _ _ T0 (mkF m 4 #[.val (.ref xa), .val (.ref b)] [(.ref b), (.int (0 : Int32)), (.ref b), (.ref xa)])
  refine Run.alen X0 B v1d_4 ?_
  show Run _ _ _ _ _ _ _ _ _ _ _ _ T0 (mkF m 5 #[.val (.ref xa), .val (.ref b)] [(.int (Int32.ofNat cs.length)), (.int (0 : Int32)), (.ref b), (.ref xa)])
  refine Run.via (fun _ => XS.aconstNull X0.at X0.ex rfl (X0.de v1d_5)) ?_
  show Run _ _ _ _ _ _ _ _ _ _ _ _ T0 (mkF m 6 #[.val (.ref xa), .val (.ref b)] [.null, (.int (Int32.ofNat cs.length)), (.int (0 : Int32)), (.ref b), (.ref xa)])
  refine Run.callN X0 (y := (⟨"java/lang/String", "<init>", "([CIILjava/lang/Void;)V"⟩ : MethodName)) (W := 0) (con_v4 l hw hS hU hn hb B hr G hz O) rfl (wd hw 20 rfl) (wd hw 21 rfl) (wd hw 16 rfl) (wd hw 23 rfl) (by decide) pd___CIILjava_lang_Void__V rfl (argsL := [(.ref b), (.int (0 : Int32)), (.int (Int32.ofNat cs.length)), .null]) (rest := []) rfl (Nat.le_of_ble_eq_true rfl) rfl v1d_6 (by decide) (by decide) (Nat.le_of_ble_eq_true rfl) (Nat.le_of_ble_eq_true rfl) (fun y hy => by cases List.mem_singleton.mp hy; exact ⟨(Or.inl (List.mem_singleton.mpr rfl)), hz⟩) (fun y hy => hy) ?_
  intro v101 T101 h101 L101 q101 X101 XF101 K101
  obtain ⟨rfl, S⟩ := q101
  show Run _ _ _ _ _ _ _ _ _ _ _ _ T101 (mkF m 9 #[.val (.ref xa), .val (.ref b)] [])
  exact Run.retV X101 rfl v1d_9 (Nat.le_of_ble_eq_true rfl) (Nat.le_of_ble_eq_true rfl) (⟨rfl, S⟩)
/-- new String(char[]) of 1 to 4 chars of any kind -/
theorem Run.initAny {Z : State} {a0 : Array Value} {EL : List (String × Nat)} {sv : Bool} {p : Program} {l : Launch} {e : Env} {R : Room} {s : State} {m : MethodId} {args : Array Value} {below : List Frame} {meth : Method} {c : Code} {own : String} {bytes : ByteArray} {maxL : Nat} {rt : Option FieldType} {nm : String} {h0 : Heap} {ws sf : List Addr} {T : State} {h : Heap} {locs : List Loc} {cells slots : Nat} {Q : Option Value → Heap → Prop} {kc ks : Nat} (hw : ∀ d ∈ tables_1, d.before a0 Z = true) (hS : Sets Z) (hU : Sets16 Z) (X : Sit Z a0 EL p l e R s m args below meth c own bytes maxL rt nm h0 ws sf T h locs cells slots) {x b : Addr} {cs : List Int32} {index pc W : Nat} {Ls : Array Slot} {rest : List Value} (G : Raw Z h x) (A : Arc .char Z h b cs) (hr : ∀ c ∈ cs, ¬ c < 0 ∧ ¬ (65535 : Int32) < c) (h1 : 0 < cs.length) (hn : cs.length ≤ 4)
    (w1 : (Cond.methodLink own index (⟨"java/lang/String", "<init>", "([C)V"⟩ : MethodName)).before a0 Z = true) (hd : decode bytes pc = .ok (.invokespecial index, 3)) (hsz : Ls.size = maxL) (hx : x ∈ ws ∨ h0.size ≤ x) (hz : Z.heap.size ≤ x) (hsf : x ∈ sf)
    (hW : (rest.map fun v => v.category).sum ≤ W) (hf : 6 ≤ R.frames) (hl : W + (2 + 11) + 101 ≤ R.locals) (hc : cells + 2 ≤ R.cells) (hs : slots + 12 ≤ R.slots)
    (k : ∀ (T' : State) (h' : Heap) (L : List Loc), Sit Z a0 EL p l e R s m args below meth c own bytes maxL rt nm h0 ws sf T' h' (locs ++ L) (cells + 2) (slots + 12) → Keep h h' [x] → Str Z h' x cs → Run Z EL sv p e below s h0 ws Q kc ks T' (mkF m (pc + 3) Ls rest)) : Run Z EL sv p e below s h0 ws Q kc ks T (mkF m pc Ls (.ref b :: .ref x :: rest)) := by
  by_cases hl' : ∀ c ∈ cs, ¬ (255 : Int32) < c
  · refine Run.initStr hw hS X (W := W) G A (fun c q => ⟨(hr c q).1, hl' c q⟩) h1 w1 (wd hw 18 rfl) (wd hw 15 rfl) hd hsz hx hz hsf hW (by omega) (by omega) (by omega) (by omega) ?_
    intro T' h' L X' K S
    exact k T' h' L (X'.mono (by omega) (by omega)) K S
  · obtain ⟨kk, hb⟩ := big_of cs hl'
    refine Run.callN X (y := (⟨"java/lang/String", "<init>", "([C)V"⟩ : MethodName)) (W := W) (con_v1 l hw hS hU hn hb A hr G hz X.old) rfl w1 (wd hw 18 rfl) (wd hw 16 rfl) (wd hw 19 rfl) (by decide) (ps := [.array .char]) (rr := none) (by decide +kernel) rfl (argsL := [.ref b]) (rest := rest) rfl hW hsz hd (by show 5 + 1 ≤ _; omega) (by show W + (2 + 11) + 101 ≤ _; omega) hc hs (fun y hy => by cases List.mem_singleton.mp hy; exact ⟨hx, hz⟩) (fun y hy => by cases List.mem_singleton.mp hy; exact hsf) ?_
    intro v T' h' L q X' _ K
    obtain ⟨rfl, S⟩ := q
    exact k T' h' L X' K S
-- part con_cd
theorem cdd_0 : decode jdk_42_method_152_code 0 = .ok (.getstatic 38, 3) := by decide +kernel
theorem cdd_3 : decode jdk_42_method_152_code 3 = .ok (.ifCond .eq 10, 3) := by decide +kernel
theorem cdd_6 : decode jdk_42_method_152_code 6 = .ok (.aload_n 0, 1) := by decide +kernel
theorem cdd_7 : decode jdk_42_method_152_code 7 = .ok (.getfield 15, 3) := by decide +kernel
theorem cdd_10 : decode jdk_42_method_152_code 10 = .ok (.goto 4, 3) := by decide +kernel
theorem cdd_14 : decode jdk_42_method_152_code 14 = .ok (.ireturn, 1) := by decide +kernel
set_option maxRecDepth 65536 in
set_option maxHeartbeats 40000000 in
theorem con_cd (l : Launch) {Z : State} {a0 : Array Value} {EL : List (String × Nat)} {h0 : Heap} (hw : ∀ d ∈ tables_1, d.before a0 Z = true) (hS : Sets Z) {a : Addr} {cd : Int32} (hc : cd = 0 ∨ cd = 1) (F : Fld Z h0 a "java/lang/String" "coder" "B" (.int cd)) (O : Ext Z.heap h0) : Con l Z a0 EL false (⟨"java/lang/String", "coder", "()B"⟩ : MethodName) jdk_42_method_152_code 1 (some .byte) ({ frames := 0, cells := 0, slots := 0, locals := 0 } : Room) [] [] #[(.ref a)] h0 (fun v h => v = some (.int cd) ∧ h0 = h) := by
  obtain ⟨zz, fm, S1, S2, S3, S4⟩ := hS
  refine Con.enter (plainFor_of_name (by first | (simp [plainName, overriddenIn]; done) | decide +kernel)) O ?_
  intro p e s m below meth c T0 X0
  rw [show entryFrame m #[(.ref a)] 1 = (mkF m 0 #[.val (.ref a)] []) from by first | (simp [entryFrame, mkF, argsToLocals, Value.category]; done) | rfl]
  refine Run.gets X0 (wd hw 27 rfl) Via.refl S1 cdd_0 ?_
  intro T101 X101
  show Run _ _ _ _ _ _ _ _ _ _ _ _ T101 (mkF m 3 #[.val (.ref a)] [(.int zz)])
  refine Run.via (fun _ => XS.ifNo X101.at X101.ex rfl (X101.de cdd_3) rfl ((if0 _ _).trans (feq S2).1)) ?_
  show Run _ _ _ _ _ _ _ _ _ _ _ _ T101 (mkF m 6 #[.val (.ref a)] [])
  refine Run.via (fun _ => XS.aloadN X101.at X101.ex rfl (X101.de cdd_6) rfl rfl) ?_
  show Run _ _ _ _ _ _ _ _ _ _ _ _ T101 (mkF m 7 #[.val (.ref a)] [(.ref a)])
  refine Run.getf X101 (wd hw 58 rfl) Via.refl F cdd_7 ?_
  intro T102 X102
  show Run _ _ _ _ _ _ _ _ _ _ _ _ T102 (mkF m 10 #[.val (.ref a)] [(.int cd)])
  refine Run.via (fun _ => XS.goto X102.at X102.ex rfl (pc0 := 10) (pc' := 14) rfl (X102.de cdd_10) (by decide) (by decide)) ?_
  show Run _ _ _ _ _ _ _ _ _ _ _ _ T102 (mkF m 14 #[.val (.ref a)] [(.int cd)])
  exact Run.retN X102 (t := .byte) rfl (by simp) cdd_14 (Nat.le_of_ble_eq_true rfl) (Nat.le_of_ble_eq_true rfl) (⟨by rcases hc with rfl | rfl <;> rfl, rfl⟩)
-- part con_ln
theorem lnd_0 : decode jdk_42_method_54_code 0 = .ok (.aload_n 0, 1) := by decide +kernel
theorem lnd_1 : decode jdk_42_method_54_code 1 = .ok (.getfield 9, 3) := by decide +kernel
theorem lnd_4 : decode jdk_42_method_54_code 4 = .ok (.arraylength, 1) := by decide +kernel
theorem lnd_5 : decode jdk_42_method_54_code 5 = .ok (.aload_n 0, 1) := by decide +kernel
theorem lnd_6 : decode jdk_42_method_54_code 6 = .ok (.invokevirtual 335, 3) := by decide +kernel
theorem lnd_9 : decode jdk_42_method_54_code 9 = .ok (.ishr, 1) := by decide +kernel
theorem lnd_10 : decode jdk_42_method_54_code 10 = .ok (.ireturn, 1) := by decide +kernel
set_option maxRecDepth 65536 in
set_option maxHeartbeats 40000000 in
theorem con_ln (l : Launch) {Z : State} {a0 : Array Value} {EL : List (String × Nat)} {h0 : Heap} (hw : ∀ d ∈ tables_1, d.before a0 Z = true) (hS : Sets Z) {a : Addr} {cs : List Int32} (hn : cs.length ≤ 2000) (S : Str Z h0 a cs) (O : Ext Z.heap h0) : Con l Z a0 EL false (⟨"java/lang/String", "length", "()I"⟩ : MethodName) jdk_42_method_54_code 1 (some .int) ({ frames := 1, cells := 0, slots := 0, locals := 14 } : Room) [] [] #[(.ref a)] h0 (fun v h => v = some (.int (Int32.ofNat cs.length)) ∧ h0 = h) := by
  obtain ⟨E, t, cd, bs, F1, F2, A, hc, hr⟩ := S.op hn
  refine Con.enter (plainFor_of_name (by first | (simp [plainName, overriddenIn]; done) | decide +kernel)) O ?_
  intro p e s m below meth c T0 X0
  rw [show entryFrame m #[(.ref a)] 1 = (mkF m 0 #[.val (.ref a)] []) from by first | (simp [entryFrame, mkF, argsToLocals, Value.category]; done) | rfl]
  refine Run.via (fun _ => XS.aloadN X0.at X0.ex rfl (X0.de lnd_0) rfl rfl) ?_
  show Run _ _ _ _ _ _ _ _ _ _ _ _ T0 (mkF m 1 #[.val (.ref a)] [(.ref a)])
  refine Run.getf X0 (wd hw 60 rfl) Via.refl F1 lnd_1 ?_
  intro T101 X101
  show Run _ _ _ _ _ _ _ _ _ _ _ _ T101 (mkF m 4 #[.val (.ref a)] [(.ref t)])
  refine Run.alen X101 A lnd_4 ?_
  show Run _ _ _ _ _ _ _ _ _ _ _ _ T101 (mkF m 5 #[.val (.ref a)] [(.int (Int32.ofNat bs.length))])
  refine Run.via (fun _ => XS.aloadN X101.at X101.ex rfl (X101.de lnd_5) rfl rfl) ?_
  show Run _ _ _ _ _ _ _ _ _ _ _ _ T101 (mkF m 6 #[.val (.ref a)] [(.ref a), (.int (Int32.ofNat bs.length))])
  refine Run.callV X101 (y := (⟨"java/lang/String", "coder", "()B"⟩ : MethodName)) (W := 1) (con_cd l hw hS (hc.imp (fun q => q.1) fun q => q.1) F2 O) E (wd hw 71 rfl) (wd hw 72 rfl) (wd hw 73 rfl) (wd hw 74 rfl) (wd hw 16 rfl) (wd hw 75 rfl) (by decide) pd___B rfl (argsL := []) (rest := [(.int (Int32.ofNat bs.length))]) rfl (Nat.le_of_ble_eq_true rfl) rfl lnd_6 (by decide) (by decide) (Nat.le_of_ble_eq_true rfl) (Nat.le_of_ble_eq_true rfl) (nofun) (nofun) ?_
  intro v102 T102 h102 L102 q102 X102 XF102 K102
  obtain ⟨rfl, rfl⟩ := q102
  show Run _ _ _ _ _ _ _ _ _ _ _ _ T102 (mkF m 9 #[.val (.ref a)] [(.int cd), (.int (Int32.ofNat bs.length))])
  refine Run.via (fun _ => XS.ishr X102.at X102.ex rfl (X102.de lnd_9) rfl) ?_
  show Run _ _ _ _ _ _ _ _ _ _ _ _ T102 (mkF m 10 #[.val (.ref a)] [(.int ((Int32.ofNat bs.length) >>> (cd &&& 31)))])
  exact Run.retI X102 rfl lnd_10 (Nat.le_of_ble_eq_true rfl) (Nat.le_of_ble_eq_true rfl) (⟨by rcases hc with ⟨rfl, rfl, -⟩ | ⟨rfl, rfl, -⟩; rw [shr0', List.length_map]; rw [wb_len, shr1' hn], rfl⟩)
-- part con_il
theorem ild_0 : decode jdk_42_method_154_code 0 = .ok (.getstatic 38, 3) := by decide +kernel
theorem ild_3 : decode jdk_42_method_154_code 3 = .ok (.ifCond .eq 14, 3) := by decide +kernel
theorem ild_6 : decode jdk_42_method_154_code 6 = .ok (.aload_n 0, 1) := by decide +kernel
theorem ild_7 : decode jdk_42_method_154_code 7 = .ok (.getfield 15, 3) := by decide +kernel
theorem ild_10 : decode jdk_42_method_154_code 10 = .ok (.ifCond .ne 7, 3) := by decide +kernel
theorem ild_13 : decode jdk_42_method_154_code 13 = .ok (.iconst 1, 1) := by decide +kernel
theorem ild_14 : decode jdk_42_method_154_code 14 = .ok (.goto 4, 3) := by decide +kernel
theorem ild_17 : decode jdk_42_method_154_code 17 = .ok (.iconst 0, 1) := by decide +kernel
theorem ild_18 : decode jdk_42_method_154_code 18 = .ok (.ireturn, 1) := by decide +kernel
set_option maxRecDepth 65536 in
set_option maxHeartbeats 40000000 in
theorem con_il (l : Launch) {Z : State} {a0 : Array Value} {EL : List (String × Nat)} {h0 : Heap} (hw : ∀ d ∈ tables_1, d.before a0 Z = true) (hS : Sets Z) {a : Addr} {cd : Int32} (F : Fld Z h0 a "java/lang/String" "coder" "B" (.int cd)) (O : Ext Z.heap h0) : Con l Z a0 EL false (⟨"java/lang/String", "isLatin1", "()Z"⟩ : MethodName) jdk_42_method_154_code 1 (some .boolean) ({ frames := 0, cells := 0, slots := 0, locals := 0 } : Room) [] [] #[(.ref a)] h0 (fun v h => v = some (.int (if cd = 0 then 1 else 0)) ∧ h0 = h) := by
  obtain ⟨zz, fm, S1, S2, S3, S4⟩ := hS
  refine Con.enter (plainFor_of_name (by first | (simp [plainName, overriddenIn]; done) | decide +kernel)) O ?_
  intro p e s m below meth c T0 X0
  rw [show entryFrame m #[(.ref a)] 1 = (mkF m 0 #[.val (.ref a)] []) from by first | (simp [entryFrame, mkF, argsToLocals, Value.category]; done) | rfl]
  refine Run.gets X0 (wd hw 27 rfl) Via.refl S1 ild_0 ?_
  intro T101 X101
  show Run _ _ _ _ _ _ _ _ _ _ _ _ T101 (mkF m 3 #[.val (.ref a)] [(.int zz)])
  refine Run.via (fun _ => XS.ifNo X101.at X101.ex rfl (X101.de ild_3) rfl ((if0 _ _).trans (feq S2).1)) ?_
  show Run _ _ _ _ _ _ _ _ _ _ _ _ T101 (mkF m 6 #[.val (.ref a)] [])
  refine Run.via (fun _ => XS.aloadN X101.at X101.ex rfl (X101.de ild_6) rfl rfl) ?_
  show Run _ _ _ _ _ _ _ _ _ _ _ _ T101 (mkF m 7 #[.val (.ref a)] [(.ref a)])
  refine Run.getf X101 (wd hw 58 rfl) Via.refl F ild_7 ?_
  intro T102 X102
  show Run _ _ _ _ _ _ _ _ _ _ _ _ T102 (mkF m 10 #[.val (.ref a)] [(.int cd)])
  by_cases q : cd = (0 : Int32)
  ·
    refine Run.via (fun _ => XS.ifNo X102.at X102.ex rfl (X102.de ild_10) rfl ((if0 _ _).trans (teq q).2)) ?_
    show Run _ _ _ _ _ _ _ _ _ _ _ _ T102 (mkF m 13 #[.val (.ref a)] [])
    refine Run.via (fun _ => XS.iconst X102.at X102.ex rfl (X102.de ild_13)) ?_
    show Run _ _ _ _ _ _ _ _ _ _ _ _ T102 (mkF m 14 #[.val (.ref a)] [(.int (1 : Int32))])
    refine Run.via (fun _ => XS.goto X102.at X102.ex rfl (pc0 := 14) (pc' := 18) rfl (X102.de ild_14) (by decide) (by decide)) ?_
    show Run _ _ _ _ _ _ _ _ _ _ _ _ T102 (mkF m 18 #[.val (.ref a)] [(.int (1 : Int32))])
    exact Run.retN X102 (t := .boolean) rfl (by simp) ild_18 (Nat.le_of_ble_eq_true rfl) (Nat.le_of_ble_eq_true rfl) (⟨by rw [if_pos q]; rfl, rfl⟩)
  ·
    refine Run.via (fun _ => XS.ifYes X102.at X102.ex rfl (pc0 := 10) (pc' := 17) rfl (X102.de ild_10) rfl ((if0 _ _).trans (feq q).2) (by decide) (by decide)) ?_
    show Run _ _ _ _ _ _ _ _ _ _ _ _ T102 (mkF m 17 #[.val (.ref a)] [])
    refine Run.via (fun _ => XS.iconst X102.at X102.ex rfl (X102.de ild_17)) ?_
    show Run _ _ _ _ _ _ _ _ _ _ _ _ T102 (mkF m 18 #[.val (.ref a)] [(.int (0 : Int32))])
    exact Run.retN X102 (t := .boolean) rfl (by simp) ild_18 (Nat.le_of_ble_eq_true rfl) (Nat.le_of_ble_eq_true rfl) (⟨by rw [if_neg q]; rfl, rfl⟩)
-- part con_pi
theorem pid_0 : decode jdk_41_method_11_code 0 = .ok (.iload_n 0, 1) := by decide +kernel
theorem pid_1 : decode jdk_41_method_11_code 1 = .ok (.ifCond .lt 8, 3) := by decide +kernel
theorem pid_4 : decode jdk_41_method_11_code 4 = .ok (.iload_n 0, 1) := by decide +kernel
theorem pid_5 : decode jdk_41_method_11_code 5 = .ok (.iload_n 1, 1) := by decide +kernel
theorem pid_6 : decode jdk_41_method_11_code 6 = .ok (.if_icmp .lt 10, 3) := by decide +kernel
theorem pid_16 : decode jdk_41_method_11_code 16 = .ok (.iload_n 0, 1) := by decide +kernel
theorem pid_17 : decode jdk_41_method_11_code 17 = .ok (.ireturn, 1) := by decide +kernel
set_option maxRecDepth 65536 in
set_option maxHeartbeats 40000000 in
theorem con_pi (l : Launch) {Z : State} {a0 : Array Value} {EL : List (String × Nat)} {h0 : Heap} (hw : ∀ d ∈ tables_1, d.before a0 Z = true) {fm : Value} (hf : fm.isRef = true) {i n : Nat} (hi : i < n) (hn : n ≤ 4000) (O : Ext Z.heap h0) : Con l Z a0 EL false (⟨"jdk/internal/util/Preconditions", "checkIndex", "(IILjava/util/function/BiFunction;)I"⟩ : MethodName) jdk_41_method_11_code 3 (some .int) ({ frames := 0, cells := 0, slots := 0, locals := 0 } : Room) [] [] #[.int (Int32.ofNat i), .int (Int32.ofNat n), fm] h0 (fun v h => v = some (.int (Int32.ofNat i)) ∧ h0 = h) := by
  rcases ref_cases hf with rfl | ⟨fa, rfl⟩
  ·
    refine Con.enter (plainFor_of_name (by first | (simp [plainName, overriddenIn]; done) | decide +kernel)) O ?_
    intro p e s m below meth c T0 X0
    rw [show entryFrame m #[(.int (Int32.ofNat i)), (.int (Int32.ofNat n)), .null] 3 = (mkF m 0 #[.val (.int (Int32.ofNat i)), .val (.int (Int32.ofNat n)), .val .null] []) from by first | (simp [entryFrame, mkF, argsToLocals, Value.category]; done) | rfl]
    refine Run.via (fun _ => XS.iloadN X0.at X0.ex rfl (X0.de pid_0) rfl) ?_
    show Run _ _ _ _ _ _ _ _ _ _ _ _ T0 (mkF m 1 #[.val (.int (Int32.ofNat i)), .val (.int (Int32.ofNat n)), .val .null] [(.int (Int32.ofNat i))])
    refine Run.via (fun _ => XS.ifNo X0.at X0.ex rfl (X0.de pid_1) rfl ((if0 _ _).trans (flt (n32' (by omega)).1).1)) ?_
    show Run _ _ _ _ _ _ _ _ _ _ _ _ T0 (mkF m 4 #[.val (.int (Int32.ofNat i)), .val (.int (Int32.ofNat n)), .val .null] [])
    refine Run.via (fun _ => XS.iloadN X0.at X0.ex rfl (X0.de pid_4) rfl) ?_
    show Run _ _ _ _ _ _ _ _ _ _ _ _ T0 (mkF m 5 #[.val (.int (Int32.ofNat i)), .val (.int (Int32.ofNat n)), .val .null] [(.int (Int32.ofNat i))])
    refine Run.via (fun _ => XS.iloadN X0.at X0.ex rfl (X0.de pid_5) rfl) ?_
    show Run _ _ _ _ _ _ _ _ _ _ _ _ T0 (mkF m 6 #[.val (.int (Int32.ofNat i)), .val (.int (Int32.ofNat n)), .val .null] [(.int (Int32.ofNat n)), (.int (Int32.ofNat i))])
    refine Run.via (fun _ => XS.icmpYes X0.at X0.ex rfl (pc0 := 6) (pc' := 16) rfl (X0.de pid_6) rfl (tlt ((i32lt (by omega) (by omega)).mpr hi)).1 (by decide) (by decide)) ?_
    show Run _ _ _ _ _ _ _ _ _ _ _ _ T0 (mkF m 16 #[.val (.int (Int32.ofNat i)), .val (.int (Int32.ofNat n)), .val .null] [])
    refine Run.via (fun _ => XS.iloadN X0.at X0.ex rfl (X0.de pid_16) rfl) ?_
    show Run _ _ _ _ _ _ _ _ _ _ _ _ T0 (mkF m 17 #[.val (.int (Int32.ofNat i)), .val (.int (Int32.ofNat n)), .val .null] [(.int (Int32.ofNat i))])
    exact Run.retI X0 rfl pid_17 (Nat.le_of_ble_eq_true rfl) (Nat.le_of_ble_eq_true rfl) (⟨rfl, rfl⟩)
  ·
    refine Con.enter (plainFor_of_name (by first | (simp [plainName, overriddenIn]; done) | decide +kernel)) O ?_
    intro p e s m below meth c T0 X0
    rw [show entryFrame m #[(.int (Int32.ofNat i)), (.int (Int32.ofNat n)), (.ref fa)] 3 = (mkF m 0 #[.val (.int (Int32.ofNat i)), .val (.int (Int32.ofNat n)), .val (.ref fa)] []) from by first | (simp [entryFrame, mkF, argsToLocals, Value.category]; done) | rfl]
    refine Run.via (fun _ => XS.iloadN X0.at X0.ex rfl (X0.de pid_0) rfl) ?_
    show Run _ _ _ _ _ _ _ _ _ _ _ _ T0 (mkF m 1 #[.val (.int (Int32.ofNat i)), .val (.int (Int32.ofNat n)), .val (.ref fa)] [(.int (Int32.ofNat i))])
    refine Run.via (fun _ => XS.ifNo X0.at X0.ex rfl (X0.de pid_1) rfl ((if0 _ _).trans (flt (n32' (by omega)).1).1)) ?_
    show Run _ _ _ _ _ _ _ _ _ _ _ _ T0 (mkF m 4 #[.val (.int (Int32.ofNat i)), .val (.int (Int32.ofNat n)), .val (.ref fa)] [])
    refine Run.via (fun _ => XS.iloadN X0.at X0.ex rfl (X0.de pid_4) rfl) ?_
    show Run _ _ _ _ _ _ _ _ _ _ _ _ T0 (mkF m 5 #[.val (.int (Int32.ofNat i)), .val (.int (Int32.ofNat n)), .val (.ref fa)] [(.int (Int32.ofNat i))])
    refine Run.via (fun _ => XS.iloadN X0.at X0.ex rfl (X0.de pid_5) rfl) ?_
    show Run _ _ _ _ _ _ _ _ _ _ _ _ T0 (mkF m 6 #[.val (.int (Int32.ofNat i)), .val (.int (Int32.ofNat n)), .val (.ref fa)] [(.int (Int32.ofNat n)), (.int (Int32.ofNat i))])
    refine Run.via (fun _ => XS.icmpYes X0.at X0.ex rfl (pc0 := 6) (pc' := 16) rfl (X0.de pid_6) rfl (tlt ((i32lt (by omega) (by omega)).mpr hi)).1 (by decide) (by decide)) ?_
    show Run _ _ _ _ _ _ _ _ _ _ _ _ T0 (mkF m 16 #[.val (.int (Int32.ofNat i)), .val (.int (Int32.ofNat n)), .val (.ref fa)] [])
    refine Run.via (fun _ => XS.iloadN X0.at X0.ex rfl (X0.de pid_16) rfl) ?_
    show Run _ _ _ _ _ _ _ _ _ _ _ _ T0 (mkF m 17 #[.val (.int (Int32.ofNat i)), .val (.int (Int32.ofNat n)), .val (.ref fa)] [(.int (Int32.ofNat i))])
    exact Run.retI X0 rfl pid_17 (Nat.le_of_ble_eq_true rfl) (Nat.le_of_ble_eq_true rfl) (⟨rfl, rfl⟩)
-- part con_si
theorem sid_0 : decode jdk_42_method_155_code 0 = .ok (.iload_n 0, 1) := by decide +kernel
theorem sid_1 : decode jdk_42_method_155_code 1 = .ok (.iload_n 1, 1) := by decide +kernel
theorem sid_2 : decode jdk_42_method_155_code 2 = .ok (.getstatic 1053, 3) := by decide +kernel
theorem sid_5 : decode jdk_42_method_155_code 5 = .ok (.invokestatic 1059, 3) := by decide +kernel
theorem sid_8 : decode jdk_42_method_155_code 8 = .ok (.pop, 1) := by decide +kernel
theorem sid_9 : decode jdk_42_method_155_code 9 = .ok (.return_, 1) := by decide +kernel
set_option maxRecDepth 65536 in
set_option maxHeartbeats 40000000 in
theorem con_si (l : Launch) {Z : State} {a0 : Array Value} {EL : List (String × Nat)} {h0 : Heap} (hw : ∀ d ∈ tables_1, d.before a0 Z = true) (hS : Sets Z) {i n : Nat} (hi : i < n) (hn : n ≤ 4000) (O : Ext Z.heap h0) : Con l Z a0 EL false (⟨"java/lang/String", "checkIndex", "(II)V"⟩ : MethodName) jdk_42_method_155_code 2 none ({ frames := 1, cells := 0, slots := 0, locals := 16 } : Room) [] [] #[(.int (Int32.ofNat i)), (.int (Int32.ofNat n))] h0 (fun v h => v = none ∧ h0 = h) := by
  obtain ⟨zz, fm, S1, S2, S3, S4⟩ := hS
  refine Con.enter (plainFor_of_name (by first | (simp [plainName, overriddenIn]; done) | decide +kernel)) O ?_
  intro p e s m below meth c T0 X0
  rw [show entryFrame m #[(.int (Int32.ofNat i)), (.int (Int32.ofNat n))] 2 = (mkF m 0 #[.val (.int (Int32.ofNat i)), .val (.int (Int32.ofNat n))] []) from by first | (simp [entryFrame, mkF, argsToLocals, Value.category]; done) | rfl]
  refine Run.via (fun _ => XS.iloadN X0.at X0.ex rfl (X0.de sid_0) rfl) ?_
  show Run _ _ _ _ _ _ _ _ _ _ _ _ T0 (mkF m 1 #[.val (.int (Int32.ofNat i)), .val (.int (Int32.ofNat n))] [(.int (Int32.ofNat i))])
  refine Run.via (fun _ => XS.iloadN X0.at X0.ex rfl (X0.de sid_1) rfl) ?_
  show Run _ _ _ _ _ _ _ _ _ _ _ _ T0 (mkF m 2 #[.val (.int (Int32.ofNat i)), .val (.int (Int32.ofNat n))] [(.int (Int32.ofNat n)), (.int (Int32.ofNat i))])
  refine Run.gets X0 (wd hw 105 rfl) Via.refl S3 sid_2 ?_
  intro T101 X101
  show Run _ _ _ _ _ _ _ _ _ _ _ _ T101 (mkF m 5 #[.val (.int (Int32.ofNat i)), .val (.int (Int32.ofNat n))] [fm, (.int (Int32.ofNat n)), (.int (Int32.ofNat i))])
  refine Run.callS X101 (y := (⟨"jdk/internal/util/Preconditions", "checkIndex", "(IILjava/util/function/BiFunction;)I"⟩ : MethodName)) (W := 0) (con_pi l hw S4 hi hn O) (wd hw 107 rfl) (wd hw 108 rfl) (wd hw 106 rfl) (wd hw 109 rfl) (by decide) pd__IILjava_util_function_BiFunction__I rfl (argsL := [(.int (Int32.ofNat i)), (.int (Int32.ofNat n)), fm]) (rest := []) rfl (Nat.le_of_ble_eq_true rfl) rfl sid_5 (by decide) (by decide) (Nat.le_of_ble_eq_true rfl) (Nat.le_of_ble_eq_true rfl) (nofun) (nofun) ?_
  intro v102 T102 h102 L102 q102 X102 XF102 K102
  obtain ⟨rfl, rfl⟩ := q102
  show Run _ _ _ _ _ _ _ _ _ _ _ _ T102 (mkF m 8 #[.val (.int (Int32.ofNat i)), .val (.int (Int32.ofNat n))] [(.int (Int32.ofNat i))])
  refine Run.via (fun _ => XS.pop X102.at X102.ex rfl (X102.de sid_8) rfl rfl) ?_
  show Run _ _ _ _ _ _ _ _ _ _ _ _ T102 (mkF m 9 #[.val (.int (Int32.ofNat i)), .val (.int (Int32.ofNat n))] [])
  exact Run.retV X102 rfl sid_9 (Nat.le_of_ble_eq_true rfl) (Nat.le_of_ble_eq_true rfl) (⟨rfl, rfl⟩)
-- part con_lc
theorem lcd_0 : decode jdk_43_method_2_code 0 = .ok (.iload_n 1, 1) := by decide +kernel
theorem lcd_1 : decode jdk_43_method_2_code 1 = .ok (.aload_n 0, 1) := by decide +kernel
theorem lcd_2 : decode jdk_43_method_2_code 2 = .ok (.arraylength, 1) := by decide +kernel
theorem lcd_3 : decode jdk_43_method_2_code 3 = .ok (.invokestatic 9, 3) := by decide +kernel
theorem lcd_6 : decode jdk_43_method_2_code 6 = .ok (.aload_n 0, 1) := by decide +kernel
theorem lcd_7 : decode jdk_43_method_2_code 7 = .ok (.iload_n 1, 1) := by decide +kernel
theorem lcd_8 : decode jdk_43_method_2_code 8 = .ok (.baload, 1) := by decide +kernel
theorem lcd_9 : decode jdk_43_method_2_code 9 = .ok (.sipush 255, 3) := by decide +kernel
theorem lcd_12 : decode jdk_43_method_2_code 12 = .ok (.iand, 1) := by decide +kernel
theorem lcd_13 : decode jdk_43_method_2_code 13 = .ok (.i2c, 1) := by decide +kernel
theorem lcd_14 : decode jdk_43_method_2_code 14 = .ok (.ireturn, 1) := by decide +kernel
set_option maxRecDepth 65536 in
set_option maxHeartbeats 40000000 in
theorem con_lc (l : Launch) {Z : State} {a0 : Array Value} {EL : List (String × Nat)} {h0 : Heap} (hw : ∀ d ∈ tables_1, d.before a0 Z = true) (hS : Sets Z) {t : Addr} {cs : List Int32} {i : Nat} (hn : cs.length ≤ 2000) (hi : i < cs.length) (A : Arc .byte Z h0 t (cs.map StrChars.lo8)) (hr : ∀ c ∈ cs, ¬ c < 0 ∧ ¬ (65535 : Int32) < c) (hl : ∀ c ∈ cs, ¬ (255 : Int32) < c) (O : Ext Z.heap h0) : Con l Z a0 EL false (⟨"java/lang/StringLatin1", "charAt", "([BI)C"⟩ : MethodName) jdk_43_method_2_code 2 (some .char) ({ frames := 2, cells := 0, slots := 0, locals := 32 } : Room) [] [] #[(.ref t), (.int (Int32.ofNat i))] h0 (fun v h => v = some (.int (cs.getD i 0)) ∧ h0 = h) := by
  refine Con.enter (plainFor_of_name (by first | (simp [plainName, overriddenIn]; done) | decide +kernel)) O ?_
  intro p e s m below meth c T0 X0
  rw [show entryFrame m #[(.ref t), (.int (Int32.ofNat i))] 2 = (mkF m 0 #[.val (.ref t), .val (.int (Int32.ofNat i))] []) from by first | (simp [entryFrame, mkF, argsToLocals, Value.category]; done) | rfl]
  refine Run.via (fun _ => XS.iloadN X0.at X0.ex rfl (X0.de lcd_0) rfl) ?_
  show Run _ _ _ _ _ _ _ _ _ _ _ _ T0 (mkF m 1 #[.val (.ref t), .val (.int (Int32.ofNat i))] [(.int (Int32.ofNat i))])
  refine Run.via (fun _ => XS.aloadN X0.at X0.ex rfl (X0.de lcd_1) rfl rfl) ?_
  show Run _ _ _ _ _ _ _ _ _ _ _ _ T0 (mkF m 2 #[.val (.ref t), .val (.int (Int32.ofNat i))] [(.ref t), (.int (Int32.ofNat i))])
  refine Run.alen X0 A lcd_2 ?_
  show Run _ _ _ _ _ _ _ _ _ _ _ _ T0 (mkF m 3 #[.val (.ref t), .val (.int (Int32.ofNat i))] [(.int (Int32.ofNat (cs.map StrChars.lo8).length)), (.int (Int32.ofNat i))])
  rw [show (Int32.ofNat (cs.map StrChars.lo8).length) = (Int32.ofNat cs.length) from by rw [List.length_map]]
  show Run _ _ _ _ _ _ _ _ _ _ _ _ T0 (mkF m 3 #[.val (.ref t), .val (.int (Int32.ofNat i))] [(.int (Int32.ofNat cs.length)), (.int (Int32.ofNat i))])
  refine Run.callS X0 (y := (⟨"java/lang/String", "checkIndex", "(II)V"⟩ : MethodName)) (W := 0) (con_si l hw hS hi (by omega) O) (wd hw 136 rfl) (wd hw 103 rfl) (wd hw 16 rfl) (wd hw 104 rfl) (by decide) pd__II_V rfl (argsL := [(.int (Int32.ofNat i)), (.int (Int32.ofNat cs.length))]) (rest := []) rfl (Nat.le_of_ble_eq_true rfl) rfl lcd_3 (by decide) (by decide) (Nat.le_of_ble_eq_true rfl) (Nat.le_of_ble_eq_true rfl) (nofun) (nofun) ?_
  intro v101 T101 h101 L101 q101 X101 XF101 K101
  obtain ⟨rfl, rfl⟩ := q101
  show Run _ _ _ _ _ _ _ _ _ _ _ _ T101 (mkF m 6 #[.val (.ref t), .val (.int (Int32.ofNat i))] [])
  refine Run.via (fun _ => XS.aloadN X101.at X101.ex rfl (X101.de lcd_6) rfl rfl) ?_
  show Run _ _ _ _ _ _ _ _ _ _ _ _ T101 (mkF m 7 #[.val (.ref t), .val (.int (Int32.ofNat i))] [(.ref t)])
  refine Run.via (fun _ => XS.iloadN X101.at X101.ex rfl (X101.de lcd_7) rfl) ?_
  show Run _ _ _ _ _ _ _ _ _ _ _ _ T101 (mkF m 8 #[.val (.ref t), .val (.int (Int32.ofNat i))] [(.int (Int32.ofNat i)), (.ref t)])
  refine Run.baload X101 (i := i) A rfl (by simpa using hi) lcd_8 ?_
  show Run _ _ _ _ _ _ _ _ _ _ _ _ T101 (mkF m 9 #[.val (.ref t), .val (.int (Int32.ofNat i))] [(.int ((cs.map StrChars.lo8).getD i 0))])
  rw [show ((cs.map StrChars.lo8).getD i 0) = (StrChars.lo8 (cs.getD i 0)) from map_getD cs i hi]
  show Run _ _ _ _ _ _ _ _ _ _ _ _ T101 (mkF m 9 #[.val (.ref t), .val (.int (Int32.ofNat i))] [(.int (StrChars.lo8 (cs.getD i 0)))])
  refine Run.via (fun _ => XS.sipush X101.at X101.ex rfl (X101.de lcd_9)) ?_
  show Run _ _ _ _ _ _ _ _ _ _ _ _ T101 (mkF m 12 #[.val (.ref t), .val (.int (Int32.ofNat i))] [(.int (255 : Int32)), (.int (StrChars.lo8 (cs.getD i 0)))])
  refine Run.via (fun _ => XS.iand X101.at X101.ex rfl (X101.de lcd_12) rfl) ?_
  show Run _ _ _ _ _ _ _ _ _ _ _ _ T101 (mkF m 13 #[.val (.ref t), .val (.int (Int32.ofNat i))] [(.int ((StrChars.lo8 (cs.getD i 0)) &&& (255 : Int32)))])
  refine Run.via (fun _ => XS.i2c X101.at X101.ex rfl (X101.de lcd_13) rfl) ?_
  show Run _ _ _ _ _ _ _ _ _ _ _ _ T101 (mkF m 14 #[.val (.ref t), .val (.int (Int32.ofNat i))] [(.int (((StrChars.lo8 (cs.getD i 0)) &&& (255 : Int32)).toUInt32.toUInt16.toUInt32.toInt32))])
  exact Run.retN X101 (t := .char) rfl (by simp) lcd_14 (Nat.le_of_ble_eq_true rfl) (Nat.le_of_ble_eq_true rfl) (⟨by rw [nar_i2c]; exact congrArg (fun z => some (Value.int z)) (lat_back (hr _ (mem_getD hi)).1 (hl _ (mem_getD hi))), rfl⟩)
-- part con_ul
theorem uld_0 : decode jdk_52_method_6_code 0 = .ok (.aload_n 0, 1) := by decide +kernel
theorem uld_1 : decode jdk_52_method_6_code 1 = .ok (.arraylength, 1) := by decide +kernel
theorem uld_2 : decode jdk_52_method_6_code 2 = .ok (.iconst 1, 1) := by decide +kernel
theorem uld_3 : decode jdk_52_method_6_code 3 = .ok (.ishr, 1) := by decide +kernel
theorem uld_4 : decode jdk_52_method_6_code 4 = .ok (.ireturn, 1) := by decide +kernel
set_option maxRecDepth 65536 in
set_option maxHeartbeats 40000000 in
theorem con_ul (l : Launch) {Z : State} {a0 : Array Value} {EL : List (String × Nat)} {h0 : Heap} (hw : ∀ d ∈ tables_1, d.before a0 Z = true) {t : Addr} {cs : List Int32} (hn : cs.length ≤ 2000) (A : Arc .byte Z h0 t (wb cs)) (O : Ext Z.heap h0) : Con l Z a0 EL false (⟨"java/lang/StringUTF16", "length", "([B)I"⟩ : MethodName) jdk_52_method_6_code 1 (some .int) ({ frames := 0, cells := 0, slots := 0, locals := 0 } : Room) [] [] #[(.ref t)] h0 (fun v h => v = some (.int (Int32.ofNat cs.length)) ∧ h0 = h) := by
  refine Con.enter (plainFor_of_name (by first | (simp [plainName, overriddenIn]; done) | decide +kernel)) O ?_
  intro p e s m below meth c T0 X0
  rw [show entryFrame m #[(.ref t)] 1 = (mkF m 0 #[.val (.ref t)] []) from by first | (simp [entryFrame, mkF, argsToLocals, Value.category]; done) | rfl]
  refine Run.via (fun _ => XS.aloadN X0.at X0.ex rfl (X0.de uld_0) rfl rfl) ?_
  show Run _ _ _ _ _ _ _ _ _ _ _ _ T0 (mkF m 1 #[.val (.ref t)] [(.ref t)])
  refine Run.alen X0 A uld_1 ?_
  show Run _ _ _ _ _ _ _ _ _ _ _ _ T0 (mkF m 2 #[.val (.ref t)] [(.int (Int32.ofNat (wb cs).length))])
  refine Run.via (fun _ => XS.iconst X0.at X0.ex rfl (X0.de uld_2)) ?_
  show Run _ _ _ _ _ _ _ _ _ _ _ _ T0 (mkF m 3 #[.val (.ref t)] [(.int (1 : Int32)), (.int (Int32.ofNat (wb cs).length))])
  refine Run.via (fun _ => XS.ishr X0.at X0.ex rfl (X0.de uld_3) rfl) ?_
  show Run _ _ _ _ _ _ _ _ _ _ _ _ T0 (mkF m 4 #[.val (.ref t)] [(.int ((Int32.ofNat (wb cs).length) >>> ((1 : Int32) &&& 31)))])
  exact Run.retI X0 rfl uld_4 (Nat.le_of_ble_eq_true rfl) (Nat.le_of_ble_eq_true rfl) (⟨by rw [wb_len, shr1' hn], rfl⟩)
-- part con_ui
theorem uid_0 : decode jdk_52_method_91_code 0 = .ok (.iload_n 0, 1) := by decide +kernel
theorem uid_1 : decode jdk_52_method_91_code 1 = .ok (.aload_n 1, 1) := by decide +kernel
theorem uid_2 : decode jdk_52_method_91_code 2 = .ok (.invokestatic 48, 3) := by decide +kernel
theorem uid_5 : decode jdk_52_method_91_code 5 = .ok (.invokestatic 414, 3) := by decide +kernel
theorem uid_8 : decode jdk_52_method_91_code 8 = .ok (.return_, 1) := by decide +kernel
set_option maxRecDepth 65536 in
set_option maxHeartbeats 40000000 in
theorem con_ui (l : Launch) {Z : State} {a0 : Array Value} {EL : List (String × Nat)} {h0 : Heap} (hw : ∀ d ∈ tables_1, d.before a0 Z = true) (hS : Sets Z) {t : Addr} {cs : List Int32} {i : Nat} (hn : cs.length ≤ 2000) (hi : i < cs.length) (A : Arc .byte Z h0 t (wb cs)) (O : Ext Z.heap h0) : Con l Z a0 EL false (⟨"java/lang/StringUTF16", "checkIndex", "(I[B)V"⟩ : MethodName) jdk_52_method_91_code 2 none ({ frames := 2, cells := 0, slots := 0, locals := 32 } : Room) [] [] #[(.int (Int32.ofNat i)), (.ref t)] h0 (fun v h => v = none ∧ h0 = h) := by
  refine Con.enter (plainFor_of_name (by first | (simp [plainName, overriddenIn]; done) | decide +kernel)) O ?_
  intro p e s m below meth c T0 X0
  rw [show entryFrame m #[(.int (Int32.ofNat i)), (.ref t)] 2 = (mkF m 0 #[.val (.int (Int32.ofNat i)), .val (.ref t)] []) from by first | (simp [entryFrame, mkF, argsToLocals, Value.category]; done) | rfl]
  refine Run.via (fun _ => XS.iloadN X0.at X0.ex rfl (X0.de uid_0) rfl) ?_
  show Run _ _ _ _ _ _ _ _ _ _ _ _ T0 (mkF m 1 #[.val (.int (Int32.ofNat i)), .val (.ref t)] [(.int (Int32.ofNat i))])
  refine Run.via (fun _ => XS.aloadN X0.at X0.ex rfl (X0.de uid_1) rfl rfl) ?_
  show Run _ _ _ _ _ _ _ _ _ _ _ _ T0 (mkF m 2 #[.val (.int (Int32.ofNat i)), .val (.ref t)] [(.ref t), (.int (Int32.ofNat i))])
  refine Run.callS X0 (y := (⟨"java/lang/StringUTF16", "length", "([B)I"⟩ : MethodName)) (W := 1) (con_ul l hw hn A O) (wd hw 99 rfl) (wd hw 100 rfl) (wd hw 30 rfl) (wd hw 101 rfl) (by decide) pd___B_I rfl (argsL := [(.ref t)]) (rest := [(.int (Int32.ofNat i))]) rfl (Nat.le_of_ble_eq_true rfl) rfl uid_2 (by decide) (by decide) (Nat.le_of_ble_eq_true rfl) (Nat.le_of_ble_eq_true rfl) (nofun) (nofun) ?_
  intro v101 T101 h101 L101 q101 X101 XF101 K101
  obtain ⟨rfl, rfl⟩ := q101
  show Run _ _ _ _ _ _ _ _ _ _ _ _ T101 (mkF m 5 #[.val (.int (Int32.ofNat i)), .val (.ref t)] [(.int (Int32.ofNat cs.length)), (.int (Int32.ofNat i))])
  refine Run.callS X101 (y := (⟨"java/lang/String", "checkIndex", "(II)V"⟩ : MethodName)) (W := 0) (con_si l hw hS hi (by omega) O) (wd hw 102 rfl) (wd hw 103 rfl) (wd hw 16 rfl) (wd hw 104 rfl) (by decide) pd__II_V rfl (argsL := [(.int (Int32.ofNat i)), (.int (Int32.ofNat cs.length))]) (rest := []) rfl (Nat.le_of_ble_eq_true rfl) rfl uid_5 (by decide) (by decide) (Nat.le_of_ble_eq_true rfl) (Nat.le_of_ble_eq_true rfl) (nofun) (nofun) ?_
  intro v102 T102 h102 L102 q102 X102 XF102 K102
  obtain ⟨rfl, rfl⟩ := q102
  show Run _ _ _ _ _ _ _ _ _ _ _ _ T102 (mkF m 8 #[.val (.int (Int32.ofNat i)), .val (.ref t)] [])
  exact Run.retV X102 rfl uid_8 (Nat.le_of_ble_eq_true rfl) (Nat.le_of_ble_eq_true rfl) (⟨rfl, rfl⟩)
-- part con_uc
theorem ucd_0 : decode jdk_52_method_83_code 0 = .ok (.iload_n 1, 1) := by decide +kernel
theorem ucd_1 : decode jdk_52_method_83_code 1 = .ok (.aload_n 0, 1) := by decide +kernel
theorem ucd_2 : decode jdk_52_method_83_code 2 = .ok (.invokestatic 67, 3) := by decide +kernel
theorem ucd_5 : decode jdk_52_method_83_code 5 = .ok (.aload_n 0, 1) := by decide +kernel
theorem ucd_6 : decode jdk_52_method_83_code 6 = .ok (.iload_n 1, 1) := by decide +kernel
theorem ucd_7 : decode jdk_52_method_83_code 7 = .ok (.invokestatic 71, 3) := by decide +kernel
theorem ucd_10 : decode jdk_52_method_83_code 10 = .ok (.ireturn, 1) := by decide +kernel
set_option maxRecDepth 65536 in
set_option maxHeartbeats 40000000 in
theorem con_uc (l : Launch) {Z : State} {a0 : Array Value} {EL : List (String × Nat)} {h0 : Heap} (hw : ∀ d ∈ tables_1, d.before a0 Z = true) (hS : Sets Z) (hU : Sets16 Z) {t : Addr} {cs : List Int32} {i : Nat} (hn : cs.length ≤ 4) (hi : i < cs.length) (A : Arc .byte Z h0 t (wb cs)) (hr : ∀ c ∈ cs, ¬ c < 0 ∧ ¬ (65535 : Int32) < c) (O : Ext Z.heap h0) : Con l Z a0 EL false (⟨"java/lang/StringUTF16", "charAt", "([BI)C"⟩ : MethodName) jdk_52_method_83_code 2 (some .char) ({ frames := 3, cells := 0, slots := 0, locals := 48 } : Room) [] [] #[(.ref t), (.int (Int32.ofNat i))] h0 (fun v h => v = some (.int (cs.getD i 0)) ∧ h0 = h) := by
  refine Con.enter (plainFor_of_name (by first | (simp [plainName, overriddenIn]; done) | decide +kernel)) O ?_
  intro p e s m below meth c T0 X0
  rw [show entryFrame m #[(.ref t), (.int (Int32.ofNat i))] 2 = (mkF m 0 #[.val (.ref t), .val (.int (Int32.ofNat i))] []) from by first | (simp [entryFrame, mkF, argsToLocals, Value.category]; done) | rfl]
  refine Run.via (fun _ => XS.iloadN X0.at X0.ex rfl (X0.de ucd_0) rfl) ?_
  show Run _ _ _ _ _ _ _ _ _ _ _ _ T0 (mkF m 1 #[.val (.ref t), .val (.int (Int32.ofNat i))] [(.int (Int32.ofNat i))])
  refine Run.via (fun _ => XS.aloadN X0.at X0.ex rfl (X0.de ucd_1) rfl rfl) ?_
  show Run _ _ _ _ _ _ _ _ _ _ _ _ T0 (mkF m 2 #[.val (.ref t), .val (.int (Int32.ofNat i))] [(.ref t), (.int (Int32.ofNat i))])
  refine Run.callS X0 (y := (⟨"java/lang/StringUTF16", "checkIndex", "(I[B)V"⟩ : MethodName)) (W := 0) (con_ui l hw hS (by omega) hi A O) (wd hw 96 rfl) (wd hw 97 rfl) (wd hw 30 rfl) (wd hw 98 rfl) (by decide) pd__I_B_V rfl (argsL := [(.int (Int32.ofNat i)), (.ref t)]) (rest := []) rfl (Nat.le_of_ble_eq_true rfl) rfl ucd_2 (by decide) (by decide) (Nat.le_of_ble_eq_true rfl) (Nat.le_of_ble_eq_true rfl) (nofun) (nofun) ?_
  intro v101 T101 h101 L101 q101 X101 XF101 K101
  obtain ⟨rfl, rfl⟩ := q101
  show Run _ _ _ _ _ _ _ _ _ _ _ _ T101 (mkF m 5 #[.val (.ref t), .val (.int (Int32.ofNat i))] [])
  refine Run.via (fun _ => XS.aloadN X101.at X101.ex rfl (X101.de ucd_5) rfl rfl) ?_
  show Run _ _ _ _ _ _ _ _ _ _ _ _ T101 (mkF m 6 #[.val (.ref t), .val (.int (Int32.ofNat i))] [(.ref t)])
  refine Run.via (fun _ => XS.iloadN X101.at X101.ex rfl (X101.de ucd_6) rfl) ?_
  show Run _ _ _ _ _ _ _ _ _ _ _ _ T101 (mkF m 7 #[.val (.ref t), .val (.int (Int32.ofNat i))] [(.int (Int32.ofNat i)), (.ref t)])
  refine Run.callS X101 (y := (⟨"java/lang/StringUTF16", "getChar", "([BI)C"⟩ : MethodName)) (W := 0) (con_gc l hw hU hn hi A hr O) (wd hw 52 rfl) (wd hw 53 rfl) (wd hw 30 rfl) (wd hw 54 rfl) (by decide) pd___BI_C rfl (argsL := [(.ref t), (.int (Int32.ofNat i))]) (rest := []) rfl (Nat.le_of_ble_eq_true rfl) rfl ucd_7 (by decide) (by decide) (Nat.le_of_ble_eq_true rfl) (Nat.le_of_ble_eq_true rfl) (nofun) (nofun) ?_
  intro v102 T102 h102 L102 q102 X102 XF102 K102
  obtain ⟨rfl, rfl⟩ := q102
  show Run _ _ _ _ _ _ _ _ _ _ _ _ T102 (mkF m 10 #[.val (.ref t), .val (.int (Int32.ofNat i))] [(.int (cs.getD i 0))])
  exact Run.retN X102 (t := .char) rfl (by simp) ucd_10 (Nat.le_of_ble_eq_true rfl) (Nat.le_of_ble_eq_true rfl) (⟨by rw [nar_char (hr _ (mem_getD hi))], rfl⟩)
-- part con_ch
theorem chd_0 : decode jdk_42_method_56_code 0 = .ok (.aload_n 0, 1) := by decide +kernel
theorem chd_1 : decode jdk_42_method_56_code 1 = .ok (.invokevirtual 492, 3) := by decide +kernel
theorem chd_4 : decode jdk_42_method_56_code 4 = .ok (.ifCond .eq 12, 3) := by decide +kernel
theorem chd_7 : decode jdk_42_method_56_code 7 = .ok (.aload_n 0, 1) := by decide +kernel
theorem chd_8 : decode jdk_42_method_56_code 8 = .ok (.getfield 9, 3) := by decide +kernel
theorem chd_11 : decode jdk_42_method_56_code 11 = .ok (.iload_n 1, 1) := by decide +kernel
theorem chd_12 : decode jdk_42_method_56_code 12 = .ok (.invokestatic 495, 3) := by decide +kernel
theorem chd_15 : decode jdk_42_method_56_code 15 = .ok (.ireturn, 1) := by decide +kernel
theorem chd_16 : decode jdk_42_method_56_code 16 = .ok (.aload_n 0, 1) := by decide +kernel
theorem chd_17 : decode jdk_42_method_56_code 17 = .ok (.getfield 9, 3) := by decide +kernel
theorem chd_20 : decode jdk_42_method_56_code 20 = .ok (.iload_n 1, 1) := by decide +kernel
theorem chd_21 : decode jdk_42_method_56_code 21 = .ok (.invokestatic 498, 3) := by decide +kernel
theorem chd_24 : decode jdk_42_method_56_code 24 = .ok (.ireturn, 1) := by decide +kernel
set_option maxRecDepth 65536 in
set_option maxHeartbeats 40000000 in
theorem con_ch (l : Launch) {Z : State} {a0 : Array Value} {EL : List (String × Nat)} {h0 : Heap} (hw : ∀ d ∈ tables_1, d.before a0 Z = true) (hS : Sets Z) (hU : Sets16 Z) {a : Addr} {cs : List Int32} {i : Nat} (hn : cs.length ≤ 4) (hi : i < cs.length) (S : Str Z h0 a cs) (O : Ext Z.heap h0) : Con l Z a0 EL false (⟨"java/lang/String", "charAt", "(I)C"⟩ : MethodName) jdk_42_method_56_code 2 (some .char) ({ frames := 4, cells := 0, slots := 0, locals := 64 } : Room) [] [] #[(.ref a), (.int (Int32.ofNat i))] h0 (fun v h => v = some (.int (cs.getD i 0)) ∧ h0 = h) := by
  obtain ⟨E, t, cd, bs, F1, F2, A, hc, hr⟩ := S.op (by omega)
  rcases hc with ⟨rfl, rfl, hl⟩ | ⟨rfl, rfl, hl⟩
  ·
    refine Con.enter (plainFor_of_name (by first | (simp [plainName, overriddenIn]; done) | decide +kernel)) O ?_
    intro p e s m below meth c T0 X0
    rw [show entryFrame m #[(.ref a), (.int (Int32.ofNat i))] 2 = (mkF m 0 #[.val (.ref a), .val (.int (Int32.ofNat i))] []) from by first | (simp [entryFrame, mkF, argsToLocals, Value.category]; done) | rfl]
    refine Run.via (fun _ => XS.aloadN X0.at X0.ex rfl (X0.de chd_0) rfl rfl) ?_
    show Run _ _ _ _ _ _ _ _ _ _ _ _ T0 (mkF m 1 #[.val (.ref a), .val (.int (Int32.ofNat i))] [(.ref a)])
    refine Run.callV X0 (y := (⟨"java/lang/String", "isLatin1", "()Z"⟩ : MethodName)) (W := 0) (con_il l hw hS F2 O) E (wd hw 88 rfl) (wd hw 89 rfl) (wd hw 90 rfl) (wd hw 91 rfl) (wd hw 16 rfl) (wd hw 92 rfl) (by decide) pd___Z rfl (argsL := []) (rest := []) rfl (Nat.le_of_ble_eq_true rfl) rfl chd_1 (by decide) (by decide) (Nat.le_of_ble_eq_true rfl) (Nat.le_of_ble_eq_true rfl) (nofun) (nofun) ?_
    intro v101 T101 h101 L101 q101 X101 XF101 K101
    obtain ⟨rfl, rfl⟩ := q101
    show Run _ _ _ _ _ _ _ _ _ _ _ _ T101 (mkF m 4 #[.val (.ref a), .val (.int (Int32.ofNat i))] [(.int (1 : Int32))])
    refine Run.via (fun _ => XS.ifNo X101.at X101.ex rfl (X101.de chd_4) rfl ((if0 _ _).trans (feq (by decide : ¬ ((1 : Int32) = (0 : Int32)))).1)) ?_
    show Run _ _ _ _ _ _ _ _ _ _ _ _ T101 (mkF m 7 #[.val (.ref a), .val (.int (Int32.ofNat i))] [])
    refine Run.via (fun _ => XS.aloadN X101.at X101.ex rfl (X101.de chd_7) rfl rfl) ?_
    show Run _ _ _ _ _ _ _ _ _ _ _ _ T101 (mkF m 8 #[.val (.ref a), .val (.int (Int32.ofNat i))] [(.ref a)])
    refine Run.getf X101 (wd hw 60 rfl) Via.refl F1 chd_8 ?_
    intro T102 X102
    show Run _ _ _ _ _ _ _ _ _ _ _ _ T102 (mkF m 11 #[.val (.ref a), .val (.int (Int32.ofNat i))] [(.ref t)])
    refine Run.via (fun _ => XS.iloadN X102.at X102.ex rfl (X102.de chd_11) rfl) ?_
    show Run _ _ _ _ _ _ _ _ _ _ _ _ T102 (mkF m 12 #[.val (.ref a), .val (.int (Int32.ofNat i))] [(.int (Int32.ofNat i)), (.ref t)])
    refine Run.callS X102 (y := (⟨"java/lang/StringLatin1", "charAt", "([BI)C"⟩ : MethodName)) (W := 0) (con_lc l hw hS (by omega) hi A hr hl O) (wd hw 132 rfl) (wd hw 133 rfl) (wd hw 134 rfl) (wd hw 135 rfl) (by decide) pd___BI_C rfl (argsL := [(.ref t), (.int (Int32.ofNat i))]) (rest := []) rfl (Nat.le_of_ble_eq_true rfl) rfl chd_12 (by decide) (by decide) (Nat.le_of_ble_eq_true rfl) (Nat.le_of_ble_eq_true rfl) (nofun) (nofun) ?_
    intro v103 T103 h103 L103 q103 X103 XF103 K103
    obtain ⟨rfl, rfl⟩ := q103
    show Run _ _ _ _ _ _ _ _ _ _ _ _ T103 (mkF m 15 #[.val (.ref a), .val (.int (Int32.ofNat i))] [(.int (cs.getD i 0))])
    exact Run.retN X103 (t := .char) rfl (by simp) chd_15 (Nat.le_of_ble_eq_true rfl) (Nat.le_of_ble_eq_true rfl) (⟨by rw [nar_char (hr _ (mem_getD hi))], rfl⟩)
  ·
    refine Con.enter (plainFor_of_name (by first | (simp [plainName, overriddenIn]; done) | decide +kernel)) O ?_
    intro p e s m below meth c T0 X0
    rw [show entryFrame m #[(.ref a), (.int (Int32.ofNat i))] 2 = (mkF m 0 #[.val (.ref a), .val (.int (Int32.ofNat i))] []) from by first | (simp [entryFrame, mkF, argsToLocals, Value.category]; done) | rfl]
    refine Run.via (fun _ => XS.aloadN X0.at X0.ex rfl (X0.de chd_0) rfl rfl) ?_
    show Run _ _ _ _ _ _ _ _ _ _ _ _ T0 (mkF m 1 #[.val (.ref a), .val (.int (Int32.ofNat i))] [(.ref a)])
    refine Run.callV X0 (y := (⟨"java/lang/String", "isLatin1", "()Z"⟩ : MethodName)) (W := 0) (con_il l hw hS F2 O) E (wd hw 88 rfl) (wd hw 89 rfl) (wd hw 90 rfl) (wd hw 91 rfl) (wd hw 16 rfl) (wd hw 92 rfl) (by decide) pd___Z rfl (argsL := []) (rest := []) rfl (Nat.le_of_ble_eq_true rfl) rfl chd_1 (by decide) (by decide) (Nat.le_of_ble_eq_true rfl) (Nat.le_of_ble_eq_true rfl) (nofun) (nofun) ?_
    intro v104 T104 h104 L104 q104 X104 XF104 K104
    obtain ⟨rfl, rfl⟩ := q104
    show Run _ _ _ _ _ _ _ _ _ _ _ _ T104 (mkF m 4 #[.val (.ref a), .val (.int (Int32.ofNat i))] [(.int (0 : Int32))])
    refine Run.via (fun _ => XS.ifYes X104.at X104.ex rfl (pc0 := 4) (pc' := 16) rfl (X104.de chd_4) rfl ((if0 _ _).trans (teq (by decide : ((0 : Int32) = (0 : Int32)))).1) (by decide) (by decide)) ?_
    show Run _ _ _ _ _ _ _ _ _ _ _ _ T104 (mkF m 16 #[.val (.ref a), .val (.int (Int32.ofNat i))] [])
    refine Run.via (fun _ => XS.aloadN X104.at X104.ex rfl (X104.de chd_16) rfl rfl) ?_
    show Run _ _ _ _ _ _ _ _ _ _ _ _ T104 (mkF m 17 #[.val (.ref a), .val (.int (Int32.ofNat i))] [(.ref a)])
    refine Run.getf X104 (wd hw 60 rfl) Via.refl F1 chd_17 ?_
    intro T105 X105
    show Run _ _ _ _ _ _ _ _ _ _ _ _ T105 (mkF m 20 #[.val (.ref a), .val (.int (Int32.ofNat i))] [(.ref t)])
    refine Run.via (fun _ => XS.iloadN X105.at X105.ex rfl (X105.de chd_20) rfl) ?_
    show Run _ _ _ _ _ _ _ _ _ _ _ _ T105 (mkF m 21 #[.val (.ref a), .val (.int (Int32.ofNat i))] [(.int (Int32.ofNat i)), (.ref t)])
    refine Run.callS X105 (y := (⟨"java/lang/StringUTF16", "charAt", "([BI)C"⟩ : MethodName)) (W := 0) (con_uc l hw hS hU hn hi A hr O) (wd hw 93 rfl) (wd hw 94 rfl) (wd hw 30 rfl) (wd hw 95 rfl) (by decide) pd___BI_C rfl (argsL := [(.ref t), (.int (Int32.ofNat i))]) (rest := []) rfl (Nat.le_of_ble_eq_true rfl) rfl chd_21 (by decide) (by decide) (Nat.le_of_ble_eq_true rfl) (Nat.le_of_ble_eq_true rfl) (nofun) (nofun) ?_
    intro v106 T106 h106 L106 q106 X106 XF106 K106
    obtain ⟨rfl, rfl⟩ := q106
    show Run _ _ _ _ _ _ _ _ _ _ _ _ T106 (mkF m 24 #[.val (.ref a), .val (.int (Int32.ofNat i))] [(.int (cs.getD i 0))])
    exact Run.retN X106 (t := .char) rfl (by simp) chd_24 (Nat.le_of_ble_eq_true rfl) (Nat.le_of_ble_eq_true rfl) (⟨by rw [nar_char (hr _ (mem_getD hi))], rfl⟩)
-- part con_hh
theorem hhd_0 : decode method_3_code 0 = .ok (.iload_n 0, 1) := by decide +kernel
theorem hhd_1 : decode method_3_code 1 = .ok (.ldc 7, 2) := by decide +kernel
theorem hhd_3 : decode method_3_code 3 = .ok (.if_icmp .lt 13, 3) := by decide +kernel
theorem hhd_6 : decode method_3_code 6 = .ok (.iload_n 0, 1) := by decide +kernel
theorem hhd_7 : decode method_3_code 7 = .ok (.ldc 9, 2) := by decide +kernel
theorem hhd_9 : decode method_3_code 9 = .ok (.if_icmp .gt 7, 3) := by decide +kernel
theorem hhd_12 : decode method_3_code 12 = .ok (.iconst 1, 1) := by decide +kernel
theorem hhd_13 : decode method_3_code 13 = .ok (.goto 4, 3) := by decide +kernel
theorem hhd_16 : decode method_3_code 16 = .ok (.iconst 0, 1) := by decide +kernel
theorem hhd_17 : decode method_3_code 17 = .ok (.ireturn, 1) := by decide +kernel
set_option maxRecDepth 65536 in
set_option maxHeartbeats 40000000 in
theorem con_hh (l : Launch) {Z : State} {a0 : Array Value} {EL : List (String × Nat)} {h0 : Heap} (hw : ∀ d ∈ tables_1, d.before a0 Z = true) {ch : Int32} (O : Ext Z.heap h0) : Con l Z a0 EL false (⟨"com/example/shelfwright/shelfwright/catalog/TextsIsUnicodePinLaw", "high", "(C)Z"⟩ : MethodName) method_3_code 1 (some .boolean) ({ frames := 0, cells := 0, slots := 0, locals := 0 } : Room) [] [] #[(.int ch)] h0 (fun v h => v = some (.int (hiV ch)) ∧ h0 = h) := by
  refine Con.enter (plainFor_of_name (by first | (simp [plainName, overriddenIn]; done) | decide +kernel)) O ?_
  intro p e s m below meth c T0 X0
  rw [show entryFrame m #[(.int ch)] 1 = (mkF m 0 #[.val (.int ch)] []) from by first | (simp [entryFrame, mkF, argsToLocals, Value.category]; done) | rfl]
  refine Run.via (fun _ => XS.iloadN X0.at X0.ex rfl (X0.de hhd_0) rfl) ?_
  show Run _ _ _ _ _ _ _ _ _ _ _ _ T0 (mkF m 1 #[.val (.int ch)] [(.int ch)])
  refine Run.ldcI X0 (wd hw 5 rfl) hhd_1 ?_
  show Run _ _ _ _ _ _ _ _ _ _ _ _ T0 (mkF m 3 #[.val (.int ch)] [(.int (55296 : Int32)), (.int ch)])
  by_cases q1 : ch < (55296 : Int32)
  ·
    refine Run.via (fun _ => XS.icmpYes X0.at X0.ex rfl (pc0 := 3) (pc' := 16) rfl (X0.de hhd_3) rfl (tlt q1).1 (by decide) (by decide)) ?_
    show Run _ _ _ _ _ _ _ _ _ _ _ _ T0 (mkF m 16 #[.val (.int ch)] [])
    refine Run.via (fun _ => XS.iconst X0.at X0.ex rfl (X0.de hhd_16)) ?_
    show Run _ _ _ _ _ _ _ _ _ _ _ _ T0 (mkF m 17 #[.val (.int ch)] [(.int (0 : Int32))])
    exact Run.retN X0 (t := .boolean) rfl (by simp) hhd_17 (Nat.le_of_ble_eq_true rfl) (Nat.le_of_ble_eq_true rfl) (⟨by unfold hiV; rw [if_neg (fun z => z.1 q1)]; rfl, rfl⟩)
  ·
    refine Run.via (fun _ => XS.icmpNo X0.at X0.ex rfl (X0.de hhd_3) rfl (flt q1).1) ?_
    show Run _ _ _ _ _ _ _ _ _ _ _ _ T0 (mkF m 6 #[.val (.int ch)] [])
    refine Run.via (fun _ => XS.iloadN X0.at X0.ex rfl (X0.de hhd_6) rfl) ?_
    show Run _ _ _ _ _ _ _ _ _ _ _ _ T0 (mkF m 7 #[.val (.int ch)] [(.int ch)])
    refine Run.ldcI X0 (wd hw 13 rfl) hhd_7 ?_
    show Run _ _ _ _ _ _ _ _ _ _ _ _ T0 (mkF m 9 #[.val (.int ch)] [(.int (56319 : Int32)), (.int ch)])
    by_cases q2 : (56319 : Int32) < ch
    ·
      refine Run.via (fun _ => XS.icmpYes X0.at X0.ex rfl (pc0 := 9) (pc' := 16) rfl (X0.de hhd_9) rfl (tlt q2).2.2.1 (by decide) (by decide)) ?_
      show Run _ _ _ _ _ _ _ _ _ _ _ _ T0 (mkF m 16 #[.val (.int ch)] [])
      refine Run.via (fun _ => XS.iconst X0.at X0.ex rfl (X0.de hhd_16)) ?_
      show Run _ _ _ _ _ _ _ _ _ _ _ _ T0 (mkF m 17 #[.val (.int ch)] [(.int (0 : Int32))])
      exact Run.retN X0 (t := .boolean) rfl (by simp) hhd_17 (Nat.le_of_ble_eq_true rfl) (Nat.le_of_ble_eq_true rfl) (⟨by unfold hiV; rw [if_neg (fun z => z.2 q2)]; rfl, rfl⟩)
    ·
      refine Run.via (fun _ => XS.icmpNo X0.at X0.ex rfl (X0.de hhd_9) rfl (flt q2).2.2.1) ?_
      show Run _ _ _ _ _ _ _ _ _ _ _ _ T0 (mkF m 12 #[.val (.int ch)] [])
      refine Run.via (fun _ => XS.iconst X0.at X0.ex rfl (X0.de hhd_12)) ?_
      show Run _ _ _ _ _ _ _ _ _ _ _ _ T0 (mkF m 13 #[.val (.int ch)] [(.int (1 : Int32))])
      refine Run.via (fun _ => XS.goto X0.at X0.ex rfl (pc0 := 13) (pc' := 17) rfl (X0.de hhd_13) (by decide) (by decide)) ?_
      show Run _ _ _ _ _ _ _ _ _ _ _ _ T0 (mkF m 17 #[.val (.int ch)] [(.int (1 : Int32))])
      exact Run.retN X0 (t := .boolean) rfl (by simp) hhd_17 (Nat.le_of_ble_eq_true rfl) (Nat.le_of_ble_eq_true rfl) (⟨by unfold hiV; rw [if_pos (⟨q1, q2⟩)]; rfl, rfl⟩)
-- part con_ll
theorem lld_0 : decode method_4_code 0 = .ok (.iload_n 0, 1) := by decide +kernel
theorem lld_1 : decode method_4_code 1 = .ok (.ldc 8, 2) := by decide +kernel
theorem lld_3 : decode method_4_code 3 = .ok (.if_icmp .lt 13, 3) := by decide +kernel
theorem lld_6 : decode method_4_code 6 = .ok (.iload_n 0, 1) := by decide +kernel
theorem lld_7 : decode method_4_code 7 = .ok (.ldc 10, 2) := by decide +kernel
theorem lld_9 : decode method_4_code 9 = .ok (.if_icmp .gt 7, 3) := by decide +kernel
theorem lld_12 : decode method_4_code 12 = .ok (.iconst 1, 1) := by decide +kernel
theorem lld_13 : decode method_4_code 13 = .ok (.goto 4, 3) := by decide +kernel
theorem lld_16 : decode method_4_code 16 = .ok (.iconst 0, 1) := by decide +kernel
theorem lld_17 : decode method_4_code 17 = .ok (.ireturn, 1) := by decide +kernel
set_option maxRecDepth 65536 in
set_option maxHeartbeats 40000000 in
theorem con_ll (l : Launch) {Z : State} {a0 : Array Value} {EL : List (String × Nat)} {h0 : Heap} (hw : ∀ d ∈ tables_1, d.before a0 Z = true) {ch : Int32} (O : Ext Z.heap h0) : Con l Z a0 EL false (⟨"com/example/shelfwright/shelfwright/catalog/TextsIsUnicodePinLaw", "low", "(C)Z"⟩ : MethodName) method_4_code 1 (some .boolean) ({ frames := 0, cells := 0, slots := 0, locals := 0 } : Room) [] [] #[(.int ch)] h0 (fun v h => v = some (.int (loV ch)) ∧ h0 = h) := by
  refine Con.enter (plainFor_of_name (by first | (simp [plainName, overriddenIn]; done) | decide +kernel)) O ?_
  intro p e s m below meth c T0 X0
  rw [show entryFrame m #[(.int ch)] 1 = (mkF m 0 #[.val (.int ch)] []) from by first | (simp [entryFrame, mkF, argsToLocals, Value.category]; done) | rfl]
  refine Run.via (fun _ => XS.iloadN X0.at X0.ex rfl (X0.de lld_0) rfl) ?_
  show Run _ _ _ _ _ _ _ _ _ _ _ _ T0 (mkF m 1 #[.val (.int ch)] [(.int ch)])
  refine Run.ldcI X0 (wd hw 128 rfl) lld_1 ?_
  show Run _ _ _ _ _ _ _ _ _ _ _ _ T0 (mkF m 3 #[.val (.int ch)] [(.int (56320 : Int32)), (.int ch)])
  by_cases q1 : ch < (56320 : Int32)
  ·
    refine Run.via (fun _ => XS.icmpYes X0.at X0.ex rfl (pc0 := 3) (pc' := 16) rfl (X0.de lld_3) rfl (tlt q1).1 (by decide) (by decide)) ?_
    show Run _ _ _ _ _ _ _ _ _ _ _ _ T0 (mkF m 16 #[.val (.int ch)] [])
    refine Run.via (fun _ => XS.iconst X0.at X0.ex rfl (X0.de lld_16)) ?_
    show Run _ _ _ _ _ _ _ _ _ _ _ _ T0 (mkF m 17 #[.val (.int ch)] [(.int (0 : Int32))])
    exact Run.retN X0 (t := .boolean) rfl (by simp) lld_17 (Nat.le_of_ble_eq_true rfl) (Nat.le_of_ble_eq_true rfl) (⟨by unfold loV; rw [if_neg (fun z => z.1 q1)]; rfl, rfl⟩)
  ·
    refine Run.via (fun _ => XS.icmpNo X0.at X0.ex rfl (X0.de lld_3) rfl (flt q1).1) ?_
    show Run _ _ _ _ _ _ _ _ _ _ _ _ T0 (mkF m 6 #[.val (.int ch)] [])
    refine Run.via (fun _ => XS.iloadN X0.at X0.ex rfl (X0.de lld_6) rfl) ?_
    show Run _ _ _ _ _ _ _ _ _ _ _ _ T0 (mkF m 7 #[.val (.int ch)] [(.int ch)])
    refine Run.ldcI X0 (wd hw 140 rfl) lld_7 ?_
    show Run _ _ _ _ _ _ _ _ _ _ _ _ T0 (mkF m 9 #[.val (.int ch)] [(.int (57343 : Int32)), (.int ch)])
    by_cases q2 : (57343 : Int32) < ch
    ·
      refine Run.via (fun _ => XS.icmpYes X0.at X0.ex rfl (pc0 := 9) (pc' := 16) rfl (X0.de lld_9) rfl (tlt q2).2.2.1 (by decide) (by decide)) ?_
      show Run _ _ _ _ _ _ _ _ _ _ _ _ T0 (mkF m 16 #[.val (.int ch)] [])
      refine Run.via (fun _ => XS.iconst X0.at X0.ex rfl (X0.de lld_16)) ?_
      show Run _ _ _ _ _ _ _ _ _ _ _ _ T0 (mkF m 17 #[.val (.int ch)] [(.int (0 : Int32))])
      exact Run.retN X0 (t := .boolean) rfl (by simp) lld_17 (Nat.le_of_ble_eq_true rfl) (Nat.le_of_ble_eq_true rfl) (⟨by unfold loV; rw [if_neg (fun z => z.2 q2)]; rfl, rfl⟩)
    ·
      refine Run.via (fun _ => XS.icmpNo X0.at X0.ex rfl (X0.de lld_9) rfl (flt q2).2.2.1) ?_
      show Run _ _ _ _ _ _ _ _ _ _ _ _ T0 (mkF m 12 #[.val (.int ch)] [])
      refine Run.via (fun _ => XS.iconst X0.at X0.ex rfl (X0.de lld_12)) ?_
      show Run _ _ _ _ _ _ _ _ _ _ _ _ T0 (mkF m 13 #[.val (.int ch)] [(.int (1 : Int32))])
      refine Run.via (fun _ => XS.goto X0.at X0.ex rfl (pc0 := 13) (pc' := 17) rfl (X0.de lld_13) (by decide) (by decide)) ?_
      show Run _ _ _ _ _ _ _ _ _ _ _ _ T0 (mkF m 17 #[.val (.int ch)] [(.int (1 : Int32))])
      exact Run.retN X0 (t := .boolean) rfl (by simp) lld_17 (Nat.le_of_ble_eq_true rfl) (Nat.le_of_ble_eq_true rfl) (⟨by unfold loV; rw [if_pos (⟨q1, q2⟩)]; rfl, rfl⟩)
-- part con_jh
theorem jhd_0 : decode jdk_89_method_14_code 0 = .ok (.iload_n 0, 1) := by decide +kernel
theorem jhd_1 : decode jdk_89_method_14_code 1 = .ok (.ldc 75, 2) := by decide +kernel
theorem jhd_3 : decode jdk_89_method_14_code 3 = .ok (.if_icmp .lt 13, 3) := by decide +kernel
theorem jhd_6 : decode jdk_89_method_14_code 6 = .ok (.iload_n 0, 1) := by decide +kernel
theorem jhd_7 : decode jdk_89_method_14_code 7 = .ok (.ldc 76, 2) := by decide +kernel
theorem jhd_9 : decode jdk_89_method_14_code 9 = .ok (.if_icmp .ge 7, 3) := by decide +kernel
theorem jhd_12 : decode jdk_89_method_14_code 12 = .ok (.iconst 1, 1) := by decide +kernel
theorem jhd_13 : decode jdk_89_method_14_code 13 = .ok (.goto 4, 3) := by decide +kernel
theorem jhd_16 : decode jdk_89_method_14_code 16 = .ok (.iconst 0, 1) := by decide +kernel
theorem jhd_17 : decode jdk_89_method_14_code 17 = .ok (.ireturn, 1) := by decide +kernel
set_option maxRecDepth 65536 in
set_option maxHeartbeats 40000000 in
theorem con_jh (l : Launch) {Z : State} {a0 : Array Value} {EL : List (String × Nat)} {h0 : Heap} (hw : ∀ d ∈ tables_1, d.before a0 Z = true) {ch : Int32} (O : Ext Z.heap h0) : Con l Z a0 EL false (⟨"java/lang/Character", "isHighSurrogate", "(C)Z"⟩ : MethodName) jdk_89_method_14_code 1 (some .boolean) ({ frames := 0, cells := 0, slots := 0, locals := 0 } : Room) [] [] #[(.int ch)] h0 (fun v h => v = some (.int (hiV ch)) ∧ h0 = h) := by
  refine Con.enter (plainFor_of_name (by first | (simp [plainName, overriddenIn]; done) | decide +kernel)) O ?_
  intro p e s m below meth c T0 X0
  rw [show entryFrame m #[(.int ch)] 1 = (mkF m 0 #[.val (.int ch)] []) from by first | (simp [entryFrame, mkF, argsToLocals, Value.category]; done) | rfl]
  refine Run.via (fun _ => XS.iloadN X0.at X0.ex rfl (X0.de jhd_0) rfl) ?_
  show Run _ _ _ _ _ _ _ _ _ _ _ _ T0 (mkF m 1 #[.val (.int ch)] [(.int ch)])
  refine Run.ldcI X0 (wd hw 114 rfl) jhd_1 ?_
  show Run _ _ _ _ _ _ _ _ _ _ _ _ T0 (mkF m 3 #[.val (.int ch)] [(.int (55296 : Int32)), (.int ch)])
  by_cases q1 : ch < (55296 : Int32)
  ·
    refine Run.via (fun _ => XS.icmpYes X0.at X0.ex rfl (pc0 := 3) (pc' := 16) rfl (X0.de jhd_3) rfl (tlt q1).1 (by decide) (by decide)) ?_
    show Run _ _ _ _ _ _ _ _ _ _ _ _ T0 (mkF m 16 #[.val (.int ch)] [])
    refine Run.via (fun _ => XS.iconst X0.at X0.ex rfl (X0.de jhd_16)) ?_
    show Run _ _ _ _ _ _ _ _ _ _ _ _ T0 (mkF m 17 #[.val (.int ch)] [(.int (0 : Int32))])
    exact Run.retN X0 (t := .boolean) rfl (by simp) jhd_17 (Nat.le_of_ble_eq_true rfl) (Nat.le_of_ble_eq_true rfl) (⟨by unfold hiV; rw [if_neg (fun z => z.1 q1)]; rfl, rfl⟩)
  ·
    refine Run.via (fun _ => XS.icmpNo X0.at X0.ex rfl (X0.de jhd_3) rfl (flt q1).1) ?_
    show Run _ _ _ _ _ _ _ _ _ _ _ _ T0 (mkF m 6 #[.val (.int ch)] [])
    refine Run.via (fun _ => XS.iloadN X0.at X0.ex rfl (X0.de jhd_6) rfl) ?_
    show Run _ _ _ _ _ _ _ _ _ _ _ _ T0 (mkF m 7 #[.val (.int ch)] [(.int ch)])
    refine Run.ldcI X0 (wd hw 115 rfl) jhd_7 ?_
    show Run _ _ _ _ _ _ _ _ _ _ _ _ T0 (mkF m 9 #[.val (.int ch)] [(.int (56320 : Int32)), (.int ch)])
    by_cases q2 : ch < (56320 : Int32)
    ·
      refine Run.via (fun _ => XS.icmpNo X0.at X0.ex rfl (X0.de jhd_9) rfl (tlt q2).2.1) ?_
      show Run _ _ _ _ _ _ _ _ _ _ _ _ T0 (mkF m 12 #[.val (.int ch)] [])
      refine Run.via (fun _ => XS.iconst X0.at X0.ex rfl (X0.de jhd_12)) ?_
      show Run _ _ _ _ _ _ _ _ _ _ _ _ T0 (mkF m 13 #[.val (.int ch)] [(.int (1 : Int32))])
      refine Run.via (fun _ => XS.goto X0.at X0.ex rfl (pc0 := 13) (pc' := 17) rfl (X0.de jhd_13) (by decide) (by decide)) ?_
      show Run _ _ _ _ _ _ _ _ _ _ _ _ T0 (mkF m 17 #[.val (.int ch)] [(.int (1 : Int32))])
      exact Run.retN X0 (t := .boolean) rfl (by simp) jhd_17 (Nat.le_of_ble_eq_true rfl) (Nat.le_of_ble_eq_true rfl) (⟨by unfold hiV; rw [if_pos (⟨q1, (lt_pred rfl).mp q2⟩)]; rfl, rfl⟩)
    ·
      refine Run.via (fun _ => XS.icmpYes X0.at X0.ex rfl (pc0 := 9) (pc' := 16) rfl (X0.de jhd_9) rfl (flt q2).2.1 (by decide) (by decide)) ?_
      show Run _ _ _ _ _ _ _ _ _ _ _ _ T0 (mkF m 16 #[.val (.int ch)] [])
      refine Run.via (fun _ => XS.iconst X0.at X0.ex rfl (X0.de jhd_16)) ?_
      show Run _ _ _ _ _ _ _ _ _ _ _ _ T0 (mkF m 17 #[.val (.int ch)] [(.int (0 : Int32))])
      exact Run.retN X0 (t := .boolean) rfl (by simp) jhd_17 (Nat.le_of_ble_eq_true rfl) (Nat.le_of_ble_eq_true rfl) (⟨by unfold hiV; rw [if_neg (fun z => q2 ((lt_pred rfl).mpr z.2))]; rfl, rfl⟩)
-- part con_jl
theorem jld_0 : decode jdk_89_method_15_code 0 = .ok (.iload_n 0, 1) := by decide +kernel
theorem jld_1 : decode jdk_89_method_15_code 1 = .ok (.ldc 76, 2) := by decide +kernel
theorem jld_3 : decode jdk_89_method_15_code 3 = .ok (.if_icmp .lt 13, 3) := by decide +kernel
theorem jld_6 : decode jdk_89_method_15_code 6 = .ok (.iload_n 0, 1) := by decide +kernel
theorem jld_7 : decode jdk_89_method_15_code 7 = .ok (.ldc 77, 2) := by decide +kernel
theorem jld_9 : decode jdk_89_method_15_code 9 = .ok (.if_icmp .ge 7, 3) := by decide +kernel
theorem jld_12 : decode jdk_89_method_15_code 12 = .ok (.iconst 1, 1) := by decide +kernel
theorem jld_13 : decode jdk_89_method_15_code 13 = .ok (.goto 4, 3) := by decide +kernel
theorem jld_16 : decode jdk_89_method_15_code 16 = .ok (.iconst 0, 1) := by decide +kernel
theorem jld_17 : decode jdk_89_method_15_code 17 = .ok (.ireturn, 1) := by decide +kernel
set_option maxRecDepth 65536 in
set_option maxHeartbeats 40000000 in
theorem con_jl (l : Launch) {Z : State} {a0 : Array Value} {EL : List (String × Nat)} {h0 : Heap} (hw : ∀ d ∈ tables_1, d.before a0 Z = true) {ch : Int32} (O : Ext Z.heap h0) : Con l Z a0 EL false (⟨"java/lang/Character", "isLowSurrogate", "(C)Z"⟩ : MethodName) jdk_89_method_15_code 1 (some .boolean) ({ frames := 0, cells := 0, slots := 0, locals := 0 } : Room) [] [] #[(.int ch)] h0 (fun v h => v = some (.int (loV ch)) ∧ h0 = h) := by
  refine Con.enter (plainFor_of_name (by first | (simp [plainName, overriddenIn]; done) | decide +kernel)) O ?_
  intro p e s m below meth c T0 X0
  rw [show entryFrame m #[(.int ch)] 1 = (mkF m 0 #[.val (.int ch)] []) from by first | (simp [entryFrame, mkF, argsToLocals, Value.category]; done) | rfl]
  refine Run.via (fun _ => XS.iloadN X0.at X0.ex rfl (X0.de jld_0) rfl) ?_
  show Run _ _ _ _ _ _ _ _ _ _ _ _ T0 (mkF m 1 #[.val (.int ch)] [(.int ch)])
  refine Run.ldcI X0 (wd hw 115 rfl) jld_1 ?_
  show Run _ _ _ _ _ _ _ _ _ _ _ _ T0 (mkF m 3 #[.val (.int ch)] [(.int (56320 : Int32)), (.int ch)])
  by_cases q1 : ch < (56320 : Int32)
  ·
    refine Run.via (fun _ => XS.icmpYes X0.at X0.ex rfl (pc0 := 3) (pc' := 16) rfl (X0.de jld_3) rfl (tlt q1).1 (by decide) (by decide)) ?_
    show Run _ _ _ _ _ _ _ _ _ _ _ _ T0 (mkF m 16 #[.val (.int ch)] [])
    refine Run.via (fun _ => XS.iconst X0.at X0.ex rfl (X0.de jld_16)) ?_
    show Run _ _ _ _ _ _ _ _ _ _ _ _ T0 (mkF m 17 #[.val (.int ch)] [(.int (0 : Int32))])
    exact Run.retN X0 (t := .boolean) rfl (by simp) jld_17 (Nat.le_of_ble_eq_true rfl) (Nat.le_of_ble_eq_true rfl) (⟨by unfold loV; rw [if_neg (fun z => z.1 q1)]; rfl, rfl⟩)
  ·
    refine Run.via (fun _ => XS.icmpNo X0.at X0.ex rfl (X0.de jld_3) rfl (flt q1).1) ?_
    show Run _ _ _ _ _ _ _ _ _ _ _ _ T0 (mkF m 6 #[.val (.int ch)] [])
    refine Run.via (fun _ => XS.iloadN X0.at X0.ex rfl (X0.de jld_6) rfl) ?_
    show Run _ _ _ _ _ _ _ _ _ _ _ _ T0 (mkF m 7 #[.val (.int ch)] [(.int ch)])
    refine Run.ldcI X0 (wd hw 141 rfl) jld_7 ?_
    show Run _ _ _ _ _ _ _ _ _ _ _ _ T0 (mkF m 9 #[.val (.int ch)] [(.int (57344 : Int32)), (.int ch)])
    by_cases q2 : ch < (57344 : Int32)
    ·
      refine Run.via (fun _ => XS.icmpNo X0.at X0.ex rfl (X0.de jld_9) rfl (tlt q2).2.1) ?_
      show Run _ _ _ _ _ _ _ _ _ _ _ _ T0 (mkF m 12 #[.val (.int ch)] [])
      refine Run.via (fun _ => XS.iconst X0.at X0.ex rfl (X0.de jld_12)) ?_
      show Run _ _ _ _ _ _ _ _ _ _ _ _ T0 (mkF m 13 #[.val (.int ch)] [(.int (1 : Int32))])
      refine Run.via (fun _ => XS.goto X0.at X0.ex rfl (pc0 := 13) (pc' := 17) rfl (X0.de jld_13) (by decide) (by decide)) ?_
      show Run _ _ _ _ _ _ _ _ _ _ _ _ T0 (mkF m 17 #[.val (.int ch)] [(.int (1 : Int32))])
      exact Run.retN X0 (t := .boolean) rfl (by simp) jld_17 (Nat.le_of_ble_eq_true rfl) (Nat.le_of_ble_eq_true rfl) (⟨by unfold loV; rw [if_pos (⟨q1, (lt_pred rfl).mp q2⟩)]; rfl, rfl⟩)
    ·
      refine Run.via (fun _ => XS.icmpYes X0.at X0.ex rfl (pc0 := 9) (pc' := 16) rfl (X0.de jld_9) rfl (flt q2).2.1 (by decide) (by decide)) ?_
      show Run _ _ _ _ _ _ _ _ _ _ _ _ T0 (mkF m 16 #[.val (.int ch)] [])
      refine Run.via (fun _ => XS.iconst X0.at X0.ex rfl (X0.de jld_16)) ?_
      show Run _ _ _ _ _ _ _ _ _ _ _ _ T0 (mkF m 17 #[.val (.int ch)] [(.int (0 : Int32))])
      exact Run.retN X0 (t := .boolean) rfl (by simp) jld_17 (Nat.le_of_ble_eq_true rfl) (Nat.le_of_ble_eq_true rfl) (⟨by unfold loV; rw [if_neg (fun z => q2 ((lt_pred rfl).mpr z.2))]; rfl, rfl⟩)
-- part con_is
theorem isd_0 : decode prog_21_method_4_code 0 = .ok (.aload_n 0, 1) := by decide +kernel
theorem isd_1 : decode prog_21_method_4_code 1 = .ok (.iload_n 1, 1) := by decide +kernel
theorem isd_2 : decode prog_21_method_4_code 2 = .ok (.invokeinterface 41 2, 5) := by decide +kernel
theorem isd_7 : decode prog_21_method_4_code 7 = .ok (.istore_n 2, 1) := by decide +kernel
theorem isd_8 : decode prog_21_method_4_code 8 = .ok (.iload_n 2, 1) := by decide +kernel
theorem isd_9 : decode prog_21_method_4_code 9 = .ok (.invokestatic 44, 3) := by decide +kernel
theorem isd_12 : decode prog_21_method_4_code 12 = .ok (.ifCond .eq 36, 3) := by decide +kernel
theorem isd_15 : decode prog_21_method_4_code 15 = .ok (.iload_n 1, 1) := by decide +kernel
theorem isd_16 : decode prog_21_method_4_code 16 = .ok (.iconst 1, 1) := by decide +kernel
theorem isd_17 : decode prog_21_method_4_code 17 = .ok (.iadd, 1) := by decide +kernel
theorem isd_18 : decode prog_21_method_4_code 18 = .ok (.aload_n 0, 1) := by decide +kernel
theorem isd_19 : decode prog_21_method_4_code 19 = .ok (.invokeinterface 50 1, 5) := by decide +kernel
theorem isd_24 : decode prog_21_method_4_code 24 = .ok (.if_icmp .eq 18, 3) := by decide +kernel
theorem isd_27 : decode prog_21_method_4_code 27 = .ok (.aload_n 0, 1) := by decide +kernel
theorem isd_28 : decode prog_21_method_4_code 28 = .ok (.iload_n 1, 1) := by decide +kernel
theorem isd_29 : decode prog_21_method_4_code 29 = .ok (.iconst 1, 1) := by decide +kernel
theorem isd_30 : decode prog_21_method_4_code 30 = .ok (.iadd, 1) := by decide +kernel
theorem isd_31 : decode prog_21_method_4_code 31 = .ok (.invokeinterface 41 2, 5) := by decide +kernel
theorem isd_36 : decode prog_21_method_4_code 36 = .ok (.invokestatic 51, 3) := by decide +kernel
theorem isd_39 : decode prog_21_method_4_code 39 = .ok (.ifCond .ne 7, 3) := by decide +kernel
theorem isd_42 : decode prog_21_method_4_code 42 = .ok (.iconst 1, 1) := by decide +kernel
theorem isd_43 : decode prog_21_method_4_code 43 = .ok (.goto 4, 3) := by decide +kernel
theorem isd_46 : decode prog_21_method_4_code 46 = .ok (.iconst 0, 1) := by decide +kernel
theorem isd_47 : decode prog_21_method_4_code 47 = .ok (.ireturn, 1) := by decide +kernel
theorem isd_48 : decode prog_21_method_4_code 48 = .ok (.iload_n 2, 1) := by decide +kernel
theorem isd_49 : decode prog_21_method_4_code 49 = .ok (.invokestatic 51, 3) := by decide +kernel
theorem isd_52 : decode prog_21_method_4_code 52 = .ok (.ifCond .eq 26, 3) := by decide +kernel
theorem isd_55 : decode prog_21_method_4_code 55 = .ok (.iload_n 1, 1) := by decide +kernel
theorem isd_56 : decode prog_21_method_4_code 56 = .ok (.ifCond .eq 18, 3) := by decide +kernel
theorem isd_59 : decode prog_21_method_4_code 59 = .ok (.aload_n 0, 1) := by decide +kernel
theorem isd_60 : decode prog_21_method_4_code 60 = .ok (.iload_n 1, 1) := by decide +kernel
theorem isd_61 : decode prog_21_method_4_code 61 = .ok (.iconst 1, 1) := by decide +kernel
theorem isd_62 : decode prog_21_method_4_code 62 = .ok (.isub, 1) := by decide +kernel
theorem isd_63 : decode prog_21_method_4_code 63 = .ok (.invokeinterface 41 2, 5) := by decide +kernel
theorem isd_68 : decode prog_21_method_4_code 68 = .ok (.invokestatic 44, 3) := by decide +kernel
theorem isd_71 : decode prog_21_method_4_code 71 = .ok (.ifCond .ne 7, 3) := by decide +kernel
theorem isd_74 : decode prog_21_method_4_code 74 = .ok (.iconst 1, 1) := by decide +kernel
theorem isd_75 : decode prog_21_method_4_code 75 = .ok (.goto 4, 3) := by decide +kernel
theorem isd_78 : decode prog_21_method_4_code 78 = .ok (.iconst 0, 1) := by decide +kernel
theorem isd_79 : decode prog_21_method_4_code 79 = .ok (.ireturn, 1) := by decide +kernel
set_option maxRecDepth 65536 in
set_option maxHeartbeats 40000000 in
theorem con_is (l : Launch) {Z : State} {a0 : Array Value} {EL : List (String × Nat)} {h0 : Heap} (hw : ∀ d ∈ tables_1, d.before a0 Z = true) (hS : Sets Z) (hU : Sets16 Z) {a : Addr} {cs : List Int32} {i : Nat} (hn : cs.length ≤ 4) (hi : i < cs.length) (S : Str Z h0 a cs) (O : Ext Z.heap h0) : Con l Z a0 EL false (⟨"com/example/shelfwright/shelfwright/catalog/Texts", "isLoneSurrogate", "(Ljava/lang/CharSequence;I)Z"⟩ : MethodName) prog_21_method_4_code 3 (some .boolean) ({ frames := 5, cells := 0, slots := 0, locals := 80 } : Room) [] [] #[(.ref a), (.int (Int32.ofNat i))] h0 (fun v h => v = some (.int (lone cs i)) ∧ h0 = h) := by
  refine Con.enter (plainFor_of_name (by first | (simp [plainName, overriddenIn]; done) | decide +kernel)) O ?_
  intro p e s m below meth c T0 X0
  rw [show entryFrame m #[(.ref a), (.int (Int32.ofNat i))] 3 = (mkF m 0 #[.val (.ref a), .val (.int (Int32.ofNat i)), .unset] []) from by first | (simp [entryFrame, mkF, argsToLocals, Value.category]; done) | rfl]
  refine Run.via (fun _ => XS.aloadN X0.at X0.ex rfl (X0.de isd_0) rfl rfl) ?_
  show Run _ _ _ _ _ _ _ _ _ _ _ _ T0 (mkF m 1 #[.val (.ref a), .val (.int (Int32.ofNat i)), .unset] [(.ref a)])
  refine Run.via (fun _ => XS.iloadN X0.at X0.ex rfl (X0.de isd_1) rfl) ?_
  show Run _ _ _ _ _ _ _ _ _ _ _ _ T0 (mkF m 2 #[.val (.ref a), .val (.int (Int32.ofNat i)), .unset] [(.int (Int32.ofNat i)), (.ref a)])
  have E := S.1
  refine Run.callI X0 (xi := (⟨"java/lang/CharSequence", "charAt", "(I)C"⟩ : MethodName)) (y := (⟨"java/lang/String", "charAt", "(I)C"⟩ : MethodName)) (W := 0) (con_ch l hw hS hU hn hi S O) E (wd hw 79 rfl) (wd hw 80 rfl) (wd hw 81 rfl) (by decide) (wd hw 82 rfl) (wd hw 83 rfl) (wd hw 84 rfl) (wd hw 85 rfl) (wd hw 86 rfl) (wd hw 16 rfl) (wd hw 87 rfl) (by decide) pd__I_C rfl (argsL := [(.int (Int32.ofNat i))]) (rest := []) rfl (Nat.le_of_ble_eq_true rfl) rfl isd_2 (by decide) (by decide) (Nat.le_of_ble_eq_true rfl) (Nat.le_of_ble_eq_true rfl) (nofun) (nofun) ?_
  intro v101 T101 h101 L101 q101 X101 XF101 K101
  obtain ⟨rfl, rfl⟩ := q101
  show Run _ _ _ _ _ _ _ _ _ _ _ _ T101 (mkF m 7 #[.val (.ref a), .val (.int (Int32.ofNat i)), .unset] [(.int (cs.getD i 0))])
  refine Run.via (fun _ => XS.istoreN X101.at X101.ex rfl (X101.de isd_7) rfl (l' := #[.val (.ref a), .val (.int (Int32.ofNat i)), .val (.int (cs.getD i 0))]) rfl) ?_
  show Run _ _ _ _ _ _ _ _ _ _ _ _ T101 (mkF m 8 #[.val (.ref a), .val (.int (Int32.ofNat i)), .val (.int (cs.getD i 0))] [])
  refine Run.via (fun _ => XS.iloadN X101.at X101.ex rfl (X101.de isd_8) rfl) ?_
  show Run _ _ _ _ _ _ _ _ _ _ _ _ T101 (mkF m 9 #[.val (.ref a), .val (.int (Int32.ofNat i)), .val (.int (cs.getD i 0))] [(.int (cs.getD i 0))])
  refine Run.callS X101 (y := (⟨"java/lang/Character", "isHighSurrogate", "(C)Z"⟩ : MethodName)) (W := 0) (con_jh l hw O) (wd hw 110 rfl) (wd hw 111 rfl) (wd hw 112 rfl) (wd hw 113 rfl) (by decide) pd__C_Z rfl (argsL := [(.int (cs.getD i 0))]) (rest := []) rfl (Nat.le_of_ble_eq_true rfl) rfl isd_9 (by decide) (by decide) (Nat.le_of_ble_eq_true rfl) (Nat.le_of_ble_eq_true rfl) (nofun) (nofun) ?_
  intro v102 T102 h102 L102 q102 X102 XF102 K102
  obtain ⟨rfl, rfl⟩ := q102
  show Run _ _ _ _ _ _ _ _ _ _ _ _ T102 (mkF m 12 #[.val (.ref a), .val (.int (Int32.ofNat i)), .val (.int (cs.getD i 0))] [(.int (hiV (cs.getD i 0)))])
  by_cases q1 : (hiV (cs.getD i 0)) = (0 : Int32)
  ·
    refine Run.via (fun _ => XS.ifYes X102.at X102.ex rfl (pc0 := 12) (pc' := 48) rfl (X102.de isd_12) rfl ((if0 _ _).trans (teq q1).1) (by decide) (by decide)) ?_
    show Run _ _ _ _ _ _ _ _ _ _ _ _ T102 (mkF m 48 #[.val (.ref a), .val (.int (Int32.ofNat i)), .val (.int (cs.getD i 0))] [])
    refine Run.via (fun _ => XS.iloadN X102.at X102.ex rfl (X102.de isd_48) rfl) ?_
    show Run _ _ _ _ _ _ _ _ _ _ _ _ T102 (mkF m 49 #[.val (.ref a), .val (.int (Int32.ofNat i)), .val (.int (cs.getD i 0))] [(.int (cs.getD i 0))])
    refine Run.callS X102 (y := (⟨"java/lang/Character", "isLowSurrogate", "(C)Z"⟩ : MethodName)) (W := 0) (con_jl l hw O) (wd hw 129 rfl) (wd hw 130 rfl) (wd hw 112 rfl) (wd hw 131 rfl) (by decide) pd__C_Z rfl (argsL := [(.int (cs.getD i 0))]) (rest := []) rfl (Nat.le_of_ble_eq_true rfl) rfl isd_49 (by decide) (by decide) (Nat.le_of_ble_eq_true rfl) (Nat.le_of_ble_eq_true rfl) (nofun) (nofun) ?_
    intro v103 T103 h103 L103 q103 X103 XF103 K103
    obtain ⟨rfl, rfl⟩ := q103
    show Run _ _ _ _ _ _ _ _ _ _ _ _ T103 (mkF m 52 #[.val (.ref a), .val (.int (Int32.ofNat i)), .val (.int (cs.getD i 0))] [(.int (loV (cs.getD i 0)))])
    by_cases q2 : (loV (cs.getD i 0)) = (0 : Int32)
    ·
      refine Run.via (fun _ => XS.ifYes X103.at X103.ex rfl (pc0 := 52) (pc' := 78) rfl (X103.de isd_52) rfl ((if0 _ _).trans (teq q2).1) (by decide) (by decide)) ?_
      show Run _ _ _ _ _ _ _ _ _ _ _ _ T103 (mkF m 78 #[.val (.ref a), .val (.int (Int32.ofNat i)), .val (.int (cs.getD i 0))] [])
      refine Run.via (fun _ => XS.iconst X103.at X103.ex rfl (X103.de isd_78)) ?_
      show Run _ _ _ _ _ _ _ _ _ _ _ _ T103 (mkF m 79 #[.val (.ref a), .val (.int (Int32.ofNat i)), .val (.int (cs.getD i 0))] [(.int (0 : Int32))])
      exact Run.retN X103 (t := .boolean) rfl (by simp) isd_79 (Nat.le_of_ble_eq_true rfl) (Nat.le_of_ble_eq_true rfl) (⟨by unfold lone; rw [if_pos q1, if_pos q2]; rfl, rfl⟩)
    ·
      refine Run.via (fun _ => XS.ifNo X103.at X103.ex rfl (X103.de isd_52) rfl ((if0 _ _).trans (feq q2).1)) ?_
      show Run _ _ _ _ _ _ _ _ _ _ _ _ T103 (mkF m 55 #[.val (.ref a), .val (.int (Int32.ofNat i)), .val (.int (cs.getD i 0))] [])
      refine Run.via (fun _ => XS.iloadN X103.at X103.ex rfl (X103.de isd_55) rfl) ?_
      show Run _ _ _ _ _ _ _ _ _ _ _ _ T103 (mkF m 56 #[.val (.ref a), .val (.int (Int32.ofNat i)), .val (.int (cs.getD i 0))] [(.int (Int32.ofNat i))])
      by_cases q3 : (Int32.ofNat i) = (0 : Int32)
      ·
        refine Run.via (fun _ => XS.ifYes X103.at X103.ex rfl (pc0 := 56) (pc' := 74) rfl (X103.de isd_56) rfl ((if0 _ _).trans (teq q3).1) (by decide) (by decide)) ?_
        show Run _ _ _ _ _ _ _ _ _ _ _ _ T103 (mkF m 74 #[.val (.ref a), .val (.int (Int32.ofNat i)), .val (.int (cs.getD i 0))] [])
        refine Run.via (fun _ => XS.iconst X103.at X103.ex rfl (X103.de isd_74)) ?_
        show Run _ _ _ _ _ _ _ _ _ _ _ _ T103 (mkF m 75 #[.val (.ref a), .val (.int (Int32.ofNat i)), .val (.int (cs.getD i 0))] [(.int (1 : Int32))])
        refine Run.via (fun _ => XS.goto X103.at X103.ex rfl (pc0 := 75) (pc' := 79) rfl (X103.de isd_75) (by decide) (by decide)) ?_
        show Run _ _ _ _ _ _ _ _ _ _ _ _ T103 (mkF m 79 #[.val (.ref a), .val (.int (Int32.ofNat i)), .val (.int (cs.getD i 0))] [(.int (1 : Int32))])
        exact Run.retN X103 (t := .boolean) rfl (by simp) isd_79 (Nat.le_of_ble_eq_true rfl) (Nat.le_of_ble_eq_true rfl) (⟨by unfold lone; rw [if_pos q1, if_neg q2, if_pos ((i32eq (b := 0) (by omega) (by omega)).mp q3)]; rfl, rfl⟩)
      ·
        refine Run.via (fun _ => XS.ifNo X103.at X103.ex rfl (X103.de isd_56) rfl ((if0 _ _).trans (feq q3).1)) ?_
        show Run _ _ _ _ _ _ _ _ _ _ _ _ T103 (mkF m 59 #[.val (.ref a), .val (.int (Int32.ofNat i)), .val (.int (cs.getD i 0))] [])
        have hp : 0 < i := by have : ¬ i = 0 := fun z => q3 ((i32eq (b := 0) (by omega) (by omega)).mpr z); omega
        refine Run.via (fun _ => XS.aloadN X103.at X103.ex rfl (X103.de isd_59) rfl rfl) ?_
        show Run _ _ _ _ _ _ _ _ _ _ _ _ T103 (mkF m 60 #[.val (.ref a), .val (.int (Int32.ofNat i)), .val (.int (cs.getD i 0))] [(.ref a)])
        refine Run.via (fun _ => XS.iloadN X103.at X103.ex rfl (X103.de isd_60) rfl) ?_
        show Run _ _ _ _ _ _ _ _ _ _ _ _ T103 (mkF m 61 #[.val (.ref a), .val (.int (Int32.ofNat i)), .val (.int (cs.getD i 0))] [(.int (Int32.ofNat i)), (.ref a)])
        refine Run.via (fun _ => XS.iconst X103.at X103.ex rfl (X103.de isd_61)) ?_
        show Run _ _ _ _ _ _ _ _ _ _ _ _ T103 (mkF m 62 #[.val (.ref a), .val (.int (Int32.ofNat i)), .val (.int (cs.getD i 0))] [(.int (1 : Int32)), (.int (Int32.ofNat i)), (.ref a)])
        refine Run.via (fun _ => XS.isub X103.at X103.ex rfl (X103.de isd_62) rfl) ?_
        show Run _ _ _ _ _ _ _ _ _ _ _ _ T103 (mkF m 63 #[.val (.ref a), .val (.int (Int32.ofNat i)), .val (.int (cs.getD i 0))] [(.int ((Int32.ofNat i) - (1 : Int32))), (.ref a)])
        rw [show ((Int32.ofNat i) - (1 : Int32)) = (Int32.ofNat (i - 1)) from i32pred hp (by omega)]
        show Run _ _ _ _ _ _ _ _ _ _ _ _ T103 (mkF m 63 #[.val (.ref a), .val (.int (Int32.ofNat i)), .val (.int (cs.getD i 0))] [(.int (Int32.ofNat (i - 1))), (.ref a)])
        refine Run.callI X103 (xi := (⟨"java/lang/CharSequence", "charAt", "(I)C"⟩ : MethodName)) (y := (⟨"java/lang/String", "charAt", "(I)C"⟩ : MethodName)) (W := 0) (con_ch l hw hS hU hn (i := i - 1) (by omega) S O) E (wd hw 79 rfl) (wd hw 80 rfl) (wd hw 81 rfl) (by decide) (wd hw 82 rfl) (wd hw 83 rfl) (wd hw 84 rfl) (wd hw 85 rfl) (wd hw 86 rfl) (wd hw 16 rfl) (wd hw 87 rfl) (by decide) pd__I_C rfl (argsL := [(.int (Int32.ofNat (i - 1)))]) (rest := []) rfl (Nat.le_of_ble_eq_true rfl) rfl isd_63 (by decide) (by decide) (Nat.le_of_ble_eq_true rfl) (Nat.le_of_ble_eq_true rfl) (nofun) (nofun) ?_
        intro v104 T104 h104 L104 q104 X104 XF104 K104
        obtain ⟨rfl, rfl⟩ := q104
        show Run _ _ _ _ _ _ _ _ _ _ _ _ T104 (mkF m 68 #[.val (.ref a), .val (.int (Int32.ofNat i)), .val (.int (cs.getD i 0))] [(.int (cs.getD (i - 1) 0))])
        refine Run.callS X104 (y := (⟨"java/lang/Character", "isHighSurrogate", "(C)Z"⟩ : MethodName)) (W := 0) (con_jh l hw O) (wd hw 110 rfl) (wd hw 111 rfl) (wd hw 112 rfl) (wd hw 113 rfl) (by decide) pd__C_Z rfl (argsL := [(.int (cs.getD (i - 1) 0))]) (rest := []) rfl (Nat.le_of_ble_eq_true rfl) rfl isd_68 (by decide) (by decide) (Nat.le_of_ble_eq_true rfl) (Nat.le_of_ble_eq_true rfl) (nofun) (nofun) ?_
        intro v105 T105 h105 L105 q105 X105 XF105 K105
        obtain ⟨rfl, rfl⟩ := q105
        show Run _ _ _ _ _ _ _ _ _ _ _ _ T105 (mkF m 71 #[.val (.ref a), .val (.int (Int32.ofNat i)), .val (.int (cs.getD i 0))] [(.int (hiV (cs.getD (i - 1) 0)))])
        by_cases q4 : (hiV (cs.getD (i - 1) 0)) = (0 : Int32)
        ·
          refine Run.via (fun _ => XS.ifNo X105.at X105.ex rfl (X105.de isd_71) rfl ((if0 _ _).trans (teq q4).2)) ?_
          show Run _ _ _ _ _ _ _ _ _ _ _ _ T105 (mkF m 74 #[.val (.ref a), .val (.int (Int32.ofNat i)), .val (.int (cs.getD i 0))] [])
          refine Run.via (fun _ => XS.iconst X105.at X105.ex rfl (X105.de isd_74)) ?_
          show Run _ _ _ _ _ _ _ _ _ _ _ _ T105 (mkF m 75 #[.val (.ref a), .val (.int (Int32.ofNat i)), .val (.int (cs.getD i 0))] [(.int (1 : Int32))])
          refine Run.via (fun _ => XS.goto X105.at X105.ex rfl (pc0 := 75) (pc' := 79) rfl (X105.de isd_75) (by decide) (by decide)) ?_
          show Run _ _ _ _ _ _ _ _ _ _ _ _ T105 (mkF m 79 #[.val (.ref a), .val (.int (Int32.ofNat i)), .val (.int (cs.getD i 0))] [(.int (1 : Int32))])
          exact Run.retN X105 (t := .boolean) rfl (by simp) isd_79 (Nat.le_of_ble_eq_true rfl) (Nat.le_of_ble_eq_true rfl) (⟨by unfold lone; rw [if_pos q1, if_neg q2, if_neg (fun z => q3 ((i32eq (b := 0) (by omega) (by omega)).mpr z)), if_pos q4]; rfl, rfl⟩)
        ·
          refine Run.via (fun _ => XS.ifYes X105.at X105.ex rfl (pc0 := 71) (pc' := 78) rfl (X105.de isd_71) rfl ((if0 _ _).trans (feq q4).2) (by decide) (by decide)) ?_
          show Run _ _ _ _ _ _ _ _ _ _ _ _ T105 (mkF m 78 #[.val (.ref a), .val (.int (Int32.ofNat i)), .val (.int (cs.getD i 0))] [])
          refine Run.via (fun _ => XS.iconst X105.at X105.ex rfl (X105.de isd_78)) ?_
          show Run _ _ _ _ _ _ _ _ _ _ _ _ T105 (mkF m 79 #[.val (.ref a), .val (.int (Int32.ofNat i)), .val (.int (cs.getD i 0))] [(.int (0 : Int32))])
          exact Run.retN X105 (t := .boolean) rfl (by simp) isd_79 (Nat.le_of_ble_eq_true rfl) (Nat.le_of_ble_eq_true rfl) (⟨by unfold lone; rw [if_pos q1, if_neg q2, if_neg (fun z => q3 ((i32eq (b := 0) (by omega) (by omega)).mpr z)), if_neg q4]; rfl, rfl⟩)
  ·
    refine Run.via (fun _ => XS.ifNo X102.at X102.ex rfl (X102.de isd_12) rfl ((if0 _ _).trans (feq q1).1)) ?_
    show Run _ _ _ _ _ _ _ _ _ _ _ _ T102 (mkF m 15 #[.val (.ref a), .val (.int (Int32.ofNat i)), .val (.int (cs.getD i 0))] [])
    refine Run.via (fun _ => XS.iloadN X102.at X102.ex rfl (X102.de isd_15) rfl) ?_
    show Run _ _ _ _ _ _ _ _ _ _ _ _ T102 (mkF m 16 #[.val (.ref a), .val (.int (Int32.ofNat i)), .val (.int (cs.getD i 0))] [(.int (Int32.ofNat i))])
    refine Run.via (fun _ => XS.iconst X102.at X102.ex rfl (X102.de isd_16)) ?_
    show Run _ _ _ _ _ _ _ _ _ _ _ _ T102 (mkF m 17 #[.val (.ref a), .val (.int (Int32.ofNat i)), .val (.int (cs.getD i 0))] [(.int (1 : Int32)), (.int (Int32.ofNat i))])
    refine Run.via (fun _ => XS.iadd X102.at X102.ex rfl (X102.de isd_17) rfl) ?_
    show Run _ _ _ _ _ _ _ _ _ _ _ _ T102 (mkF m 18 #[.val (.ref a), .val (.int (Int32.ofNat i)), .val (.int (cs.getD i 0))] [(.int ((Int32.ofNat i) + (1 : Int32)))])
    refine Run.via (fun _ => XS.aloadN X102.at X102.ex rfl (X102.de isd_18) rfl rfl) ?_
    show Run _ _ _ _ _ _ _ _ _ _ _ _ T102 (mkF m 19 #[.val (.ref a), .val (.int (Int32.ofNat i)), .val (.int (cs.getD i 0))] [(.ref a), (.int ((Int32.ofNat i) + (1 : Int32)))])
    refine Run.callI X102 (xi := (⟨"java/lang/CharSequence", "length", "()I"⟩ : MethodName)) (y := (⟨"java/lang/String", "length", "()I"⟩ : MethodName)) (W := 1) (con_ln l hw hS (by omega) S O) E (wd hw 116 rfl) (wd hw 117 rfl) (wd hw 118 rfl) (by decide) (wd hw 119 rfl) (wd hw 68 rfl) (wd hw 120 rfl) (wd hw 121 rfl) (wd hw 86 rfl) (wd hw 16 rfl) (wd hw 70 rfl) (by decide) pd___I rfl (argsL := []) (rest := [(.int ((Int32.ofNat i) + (1 : Int32)))]) rfl (Nat.le_of_ble_eq_true rfl) rfl isd_19 (by decide) (by decide) (Nat.le_of_ble_eq_true rfl) (Nat.le_of_ble_eq_true rfl) (nofun) (nofun) ?_
    intro v106 T106 h106 L106 q106 X106 XF106 K106
    obtain ⟨rfl, rfl⟩ := q106
    show Run _ _ _ _ _ _ _ _ _ _ _ _ T106 (mkF m 24 #[.val (.ref a), .val (.int (Int32.ofNat i)), .val (.int (cs.getD i 0))] [(.int (Int32.ofNat cs.length)), (.int ((Int32.ofNat i) + (1 : Int32)))])
    rw [show ((Int32.ofNat i) + (1 : Int32)) = (Int32.ofNat (i + 1)) from i32succ (by omega)]
    show Run _ _ _ _ _ _ _ _ _ _ _ _ T106 (mkF m 24 #[.val (.ref a), .val (.int (Int32.ofNat i)), .val (.int (cs.getD i 0))] [(.int (Int32.ofNat cs.length)), (.int (Int32.ofNat (i + 1)))])
    by_cases q2 : (Int32.ofNat (i + 1)) = (Int32.ofNat cs.length)
    ·
      refine Run.via (fun _ => XS.icmpYes X106.at X106.ex rfl (pc0 := 24) (pc' := 42) rfl (X106.de isd_24) rfl (teq q2).1 (by decide) (by decide)) ?_
      show Run _ _ _ _ _ _ _ _ _ _ _ _ T106 (mkF m 42 #[.val (.ref a), .val (.int (Int32.ofNat i)), .val (.int (cs.getD i 0))] [])
      refine Run.via (fun _ => XS.iconst X106.at X106.ex rfl (X106.de isd_42)) ?_
      show Run _ _ _ _ _ _ _ _ _ _ _ _ T106 (mkF m 43 #[.val (.ref a), .val (.int (Int32.ofNat i)), .val (.int (cs.getD i 0))] [(.int (1 : Int32))])
      refine Run.via (fun _ => XS.goto X106.at X106.ex rfl (pc0 := 43) (pc' := 47) rfl (X106.de isd_43) (by decide) (by decide)) ?_
      show Run _ _ _ _ _ _ _ _ _ _ _ _ T106 (mkF m 47 #[.val (.ref a), .val (.int (Int32.ofNat i)), .val (.int (cs.getD i 0))] [(.int (1 : Int32))])
      exact Run.retN X106 (t := .boolean) rfl (by simp) isd_47 (Nat.le_of_ble_eq_true rfl) (Nat.le_of_ble_eq_true rfl) (⟨by unfold lone; rw [if_neg q1, if_pos ((i32eq (by omega) (by omega)).mp q2)]; rfl, rfl⟩)
    ·
      refine Run.via (fun _ => XS.icmpNo X106.at X106.ex rfl (X106.de isd_24) rfl (feq q2).1) ?_
      show Run _ _ _ _ _ _ _ _ _ _ _ _ T106 (mkF m 27 #[.val (.ref a), .val (.int (Int32.ofNat i)), .val (.int (cs.getD i 0))] [])
      have hi2 : i + 1 < cs.length := by have : ¬ i + 1 = cs.length := fun z => q2 ((i32eq (by omega) (by omega)).mpr z); omega
      refine Run.via (fun _ => XS.aloadN X106.at X106.ex rfl (X106.de isd_27) rfl rfl) ?_
      show Run _ _ _ _ _ _ _ _ _ _ _ _ T106 (mkF m 28 #[.val (.ref a), .val (.int (Int32.ofNat i)), .val (.int (cs.getD i 0))] [(.ref a)])
      refine Run.via (fun _ => XS.iloadN X106.at X106.ex rfl (X106.de isd_28) rfl) ?_
      show Run _ _ _ _ _ _ _ _ _ _ _ _ T106 (mkF m 29 #[.val (.ref a), .val (.int (Int32.ofNat i)), .val (.int (cs.getD i 0))] [(.int (Int32.ofNat i)), (.ref a)])
      refine Run.via (fun _ => XS.iconst X106.at X106.ex rfl (X106.de isd_29)) ?_
      show Run _ _ _ _ _ _ _ _ _ _ _ _ T106 (mkF m 30 #[.val (.ref a), .val (.int (Int32.ofNat i)), .val (.int (cs.getD i 0))] [(.int (1 : Int32)), (.int (Int32.ofNat i)), (.ref a)])
      refine Run.via (fun _ => XS.iadd X106.at X106.ex rfl (X106.de isd_30) rfl) ?_
      show Run _ _ _ _ _ _ _ _ _ _ _ _ T106 (mkF m 31 #[.val (.ref a), .val (.int (Int32.ofNat i)), .val (.int (cs.getD i 0))] [(.int ((Int32.ofNat i) + (1 : Int32))), (.ref a)])
      rw [show ((Int32.ofNat i) + (1 : Int32)) = (Int32.ofNat (i + 1)) from i32succ (by omega)]
      show Run _ _ _ _ _ _ _ _ _ _ _ _ T106 (mkF m 31 #[.val (.ref a), .val (.int (Int32.ofNat i)), .val (.int (cs.getD i 0))] [(.int (Int32.ofNat (i + 1))), (.ref a)])
      refine Run.callI X106 (xi := (⟨"java/lang/CharSequence", "charAt", "(I)C"⟩ : MethodName)) (y := (⟨"java/lang/String", "charAt", "(I)C"⟩ : MethodName)) (W := 0) (con_ch l hw hS hU hn hi2 S O) E (wd hw 79 rfl) (wd hw 80 rfl) (wd hw 81 rfl) (by decide) (wd hw 82 rfl) (wd hw 83 rfl) (wd hw 84 rfl) (wd hw 85 rfl) (wd hw 86 rfl) (wd hw 16 rfl) (wd hw 87 rfl) (by decide) pd__I_C rfl (argsL := [(.int (Int32.ofNat (i + 1)))]) (rest := []) rfl (Nat.le_of_ble_eq_true rfl) rfl isd_31 (by decide) (by decide) (Nat.le_of_ble_eq_true rfl) (Nat.le_of_ble_eq_true rfl) (nofun) (nofun) ?_
      intro v107 T107 h107 L107 q107 X107 XF107 K107
      obtain ⟨rfl, rfl⟩ := q107
      show Run _ _ _ _ _ _ _ _ _ _ _ _ T107 (mkF m 36 #[.val (.ref a), .val (.int (Int32.ofNat i)), .val (.int (cs.getD i 0))] [(.int (cs.getD (i + 1) 0))])
      refine Run.callS X107 (y := (⟨"java/lang/Character", "isLowSurrogate", "(C)Z"⟩ : MethodName)) (W := 0) (con_jl l hw O) (wd hw 129 rfl) (wd hw 130 rfl) (wd hw 112 rfl) (wd hw 131 rfl) (by decide) pd__C_Z rfl (argsL := [(.int (cs.getD (i + 1) 0))]) (rest := []) rfl (Nat.le_of_ble_eq_true rfl) rfl isd_36 (by decide) (by decide) (Nat.le_of_ble_eq_true rfl) (Nat.le_of_ble_eq_true rfl) (nofun) (nofun) ?_
      intro v108 T108 h108 L108 q108 X108 XF108 K108
      obtain ⟨rfl, rfl⟩ := q108
      show Run _ _ _ _ _ _ _ _ _ _ _ _ T108 (mkF m 39 #[.val (.ref a), .val (.int (Int32.ofNat i)), .val (.int (cs.getD i 0))] [(.int (loV (cs.getD (i + 1) 0)))])
      by_cases q3 : (loV (cs.getD (i + 1) 0)) = (0 : Int32)
      ·
        refine Run.via (fun _ => XS.ifNo X108.at X108.ex rfl (X108.de isd_39) rfl ((if0 _ _).trans (teq q3).2)) ?_
        show Run _ _ _ _ _ _ _ _ _ _ _ _ T108 (mkF m 42 #[.val (.ref a), .val (.int (Int32.ofNat i)), .val (.int (cs.getD i 0))] [])
        refine Run.via (fun _ => XS.iconst X108.at X108.ex rfl (X108.de isd_42)) ?_
        show Run _ _ _ _ _ _ _ _ _ _ _ _ T108 (mkF m 43 #[.val (.ref a), .val (.int (Int32.ofNat i)), .val (.int (cs.getD i 0))] [(.int (1 : Int32))])
        refine Run.via (fun _ => XS.goto X108.at X108.ex rfl (pc0 := 43) (pc' := 47) rfl (X108.de isd_43) (by decide) (by decide)) ?_
        show Run _ _ _ _ _ _ _ _ _ _ _ _ T108 (mkF m 47 #[.val (.ref a), .val (.int (Int32.ofNat i)), .val (.int (cs.getD i 0))] [(.int (1 : Int32))])
        exact Run.retN X108 (t := .boolean) rfl (by simp) isd_47 (Nat.le_of_ble_eq_true rfl) (Nat.le_of_ble_eq_true rfl) (⟨by unfold lone; rw [if_neg q1, if_neg (fun z => q2 ((i32eq (by omega) (by omega)).mpr z)), if_pos q3]; rfl, rfl⟩)
      ·
        refine Run.via (fun _ => XS.ifYes X108.at X108.ex rfl (pc0 := 39) (pc' := 46) rfl (X108.de isd_39) rfl ((if0 _ _).trans (feq q3).2) (by decide) (by decide)) ?_
        show Run _ _ _ _ _ _ _ _ _ _ _ _ T108 (mkF m 46 #[.val (.ref a), .val (.int (Int32.ofNat i)), .val (.int (cs.getD i 0))] [])
        refine Run.via (fun _ => XS.iconst X108.at X108.ex rfl (X108.de isd_46)) ?_
        show Run _ _ _ _ _ _ _ _ _ _ _ _ T108 (mkF m 47 #[.val (.ref a), .val (.int (Int32.ofNat i)), .val (.int (cs.getD i 0))] [(.int (0 : Int32))])
        exact Run.retN X108 (t := .boolean) rfl (by simp) isd_47 (Nat.le_of_ble_eq_true rfl) (Nat.le_of_ble_eq_true rfl) (⟨by unfold lone; rw [if_neg q1, if_neg (fun z => q2 ((i32eq (by omega) (by omega)).mpr z)), if_neg q3]; rfl, rfl⟩)
-- part con_mk
theorem mkd_0 : decode method_2_code 0 = .ok (.iload_n 0, 1) := by decide +kernel
theorem mkd_1 : decode method_2_code 1 = .ok (.iconst 3, 1) := by decide +kernel
theorem mkd_2 : decode method_2_code 2 = .ok (.iand, 1) := by decide +kernel
theorem mkd_3 : decode method_2_code 3 = .ok (.istore_n 1, 1) := by decide +kernel
theorem mkd_4 : decode method_2_code 4 = .ok (.iload_n 0, 1) := by decide +kernel
theorem mkd_5 : decode method_2_code 5 = .ok (.iconst 2, 1) := by decide +kernel
theorem mkd_6 : decode method_2_code 6 = .ok (.iushr, 1) := by decide +kernel
theorem mkd_7 : decode method_2_code 7 = .ok (.istore_n 2, 1) := by decide +kernel
theorem mkd_8 : decode method_2_code 8 = .ok (.iload_n 1, 1) := by decide +kernel
theorem mkd_9 : decode method_2_code 9 = .ok (.ifCond .ne 13, 3) := by decide +kernel
theorem mkd_12 : decode method_2_code 12 = .ok (.ldc 7, 2) := by decide +kernel
theorem mkd_14 : decode method_2_code 14 = .ok (.iload_n 2, 1) := by decide +kernel
theorem mkd_15 : decode method_2_code 15 = .ok (.sipush 1023, 3) := by decide +kernel
theorem mkd_18 : decode method_2_code 18 = .ok (.iand, 1) := by decide +kernel
theorem mkd_19 : decode method_2_code 19 = .ok (.ior, 1) := by decide +kernel
theorem mkd_20 : decode method_2_code 20 = .ok (.i2c, 1) := by decide +kernel
theorem mkd_21 : decode method_2_code 21 = .ok (.ireturn, 1) := by decide +kernel
theorem mkd_22 : decode method_2_code 22 = .ok (.iload_n 1, 1) := by decide +kernel
theorem mkd_23 : decode method_2_code 23 = .ok (.iconst 1, 1) := by decide +kernel
theorem mkd_24 : decode method_2_code 24 = .ok (.if_icmp .ne 13, 3) := by decide +kernel
theorem mkd_27 : decode method_2_code 27 = .ok (.ldc 8, 2) := by decide +kernel
theorem mkd_29 : decode method_2_code 29 = .ok (.iload_n 2, 1) := by decide +kernel
theorem mkd_30 : decode method_2_code 30 = .ok (.sipush 1023, 3) := by decide +kernel
theorem mkd_33 : decode method_2_code 33 = .ok (.iand, 1) := by decide +kernel
theorem mkd_34 : decode method_2_code 34 = .ok (.ior, 1) := by decide +kernel
theorem mkd_35 : decode method_2_code 35 = .ok (.i2c, 1) := by decide +kernel
theorem mkd_36 : decode method_2_code 36 = .ok (.ireturn, 1) := by decide +kernel
theorem mkd_37 : decode method_2_code 37 = .ok (.iload_n 2, 1) := by decide +kernel
theorem mkd_38 : decode method_2_code 38 = .ok (.i2c, 1) := by decide +kernel
theorem mkd_39 : decode method_2_code 39 = .ok (.ireturn, 1) := by decide +kernel
set_option maxRecDepth 65536 in
set_option maxHeartbeats 40000000 in
theorem con_mk (l : Launch) {Z : State} {a0 : Array Value} {EL : List (String × Nat)} {h0 : Heap} (hw : ∀ d ∈ tables_1, d.before a0 Z = true) {x0 : Int32} (O : Ext Z.heap h0) : Con l Z a0 EL false (⟨"com/example/shelfwright/shelfwright/catalog/TextsIsUnicodePinLaw", "mk", "(I)C"⟩ : MethodName) method_2_code 3 (some .char) ({ frames := 0, cells := 0, slots := 0, locals := 0 } : Room) [] [] #[(.int x0)] h0 (fun v h => (∃ c : Int32, v = some (.int c) ∧ ¬ c < 0 ∧ ¬ (65535 : Int32) < c) ∧ h0 = h) := by
  refine Con.enter (plainFor_of_name (by first | (simp [plainName, overriddenIn]; done) | decide +kernel)) O ?_
  intro p e s m below meth c T0 X0
  rw [show entryFrame m #[(.int x0)] 3 = (mkF m 0 #[.val (.int x0), .unset, .unset] []) from by first | (simp [entryFrame, mkF, argsToLocals, Value.category]; done) | rfl]
  refine Run.via (fun _ => XS.iloadN X0.at X0.ex rfl (X0.de mkd_0) rfl) ?_
  show Run _ _ _ _ _ _ _ _ _ _ _ _ T0 (mkF m 1 #[.val (.int x0), .unset, .unset] [(.int x0)])
  refine Run.via (fun _ => XS.iconst X0.at X0.ex rfl (X0.de mkd_1)) ?_
  show Run _ _ _ _ _ _ _ _ _ _ _ _ T0 (mkF m 2 #[.val (.int x0), .unset, .unset] [(.int (3 : Int32)), (.int x0)])
  refine Run.via (fun _ => XS.iand X0.at X0.ex rfl (X0.de mkd_2) rfl) ?_
  show Run _ _ _ _ _ _ _ _ _ _ _ _ T0 (mkF m 3 #[.val (.int x0), .unset, .unset] [(.int (x0 &&& (3 : Int32)))])
  refine Run.via (fun _ => XS.istoreN X0.at X0.ex rfl (X0.de mkd_3) rfl (l' := #[.val (.int x0), .val (.int (x0 &&& (3 : Int32))), .unset]) rfl) ?_
  show Run _ _ _ _ _ _ _ _ _ _ _ _ T0 (mkF m 4 #[.val (.int x0), .val (.int (x0 &&& (3 : Int32))), .unset] [])
  refine Run.via (fun _ => XS.iloadN X0.at X0.ex rfl (X0.de mkd_4) rfl) ?_
  show Run _ _ _ _ _ _ _ _ _ _ _ _ T0 (mkF m 5 #[.val (.int x0), .val (.int (x0 &&& (3 : Int32))), .unset] [(.int x0)])
  refine Run.via (fun _ => XS.iconst X0.at X0.ex rfl (X0.de mkd_5)) ?_
  show Run _ _ _ _ _ _ _ _ _ _ _ _ T0 (mkF m 6 #[.val (.int x0), .val (.int (x0 &&& (3 : Int32))), .unset] [(.int (2 : Int32)), (.int x0)])
  refine Run.via (fun _ => XS.iushr X0.at X0.ex rfl (X0.de mkd_6) rfl) ?_
  show Run _ _ _ _ _ _ _ _ _ _ _ _ T0 (mkF m 7 #[.val (.int x0), .val (.int (x0 &&& (3 : Int32))), .unset] [(.int ((x0.toUInt32 >>> ((2 : Int32) &&& 31).toUInt32).toInt32))])
  refine Run.via (fun _ => XS.istoreN X0.at X0.ex rfl (X0.de mkd_7) rfl (l' := #[.val (.int x0), .val (.int (x0 &&& (3 : Int32))), .val (.int ((x0.toUInt32 >>> ((2 : Int32) &&& 31).toUInt32).toInt32))]) rfl) ?_
  show Run _ _ _ _ _ _ _ _ _ _ _ _ T0 (mkF m 8 #[.val (.int x0), .val (.int (x0 &&& (3 : Int32))), .val (.int ((x0.toUInt32 >>> ((2 : Int32) &&& 31).toUInt32).toInt32))] [])
  refine Run.via (fun _ => XS.iloadN X0.at X0.ex rfl (X0.de mkd_8) rfl) ?_
  show Run _ _ _ _ _ _ _ _ _ _ _ _ T0 (mkF m 9 #[.val (.int x0), .val (.int (x0 &&& (3 : Int32))), .val (.int ((x0.toUInt32 >>> ((2 : Int32) &&& 31).toUInt32).toInt32))] [(.int (x0 &&& (3 : Int32)))])
  by_cases q0 : (x0 &&& (3 : Int32)) = (0 : Int32)
  ·
    refine Run.via (fun _ => XS.ifNo X0.at X0.ex rfl (X0.de mkd_9) rfl ((if0 _ _).trans (teq q0).2)) ?_
    show Run _ _ _ _ _ _ _ _ _ _ _ _ T0 (mkF m 12 #[.val (.int x0), .val (.int (x0 &&& (3 : Int32))), .val (.int ((x0.toUInt32 >>> ((2 : Int32) &&& 31).toUInt32).toInt32))] [])
    refine Run.ldcI X0 (wd hw 5 rfl) mkd_12 ?_
    show Run _ _ _ _ _ _ _ _ _ _ _ _ T0 (mkF m 14 #[.val (.int x0), .val (.int (x0 &&& (3 : Int32))), .val (.int ((x0.toUInt32 >>> ((2 : Int32) &&& 31).toUInt32).toInt32))] [(.int (55296 : Int32))])
    refine Run.via (fun _ => XS.iloadN X0.at X0.ex rfl (X0.de mkd_14) rfl) ?_
    show Run _ _ _ _ _ _ _ _ _ _ _ _ T0 (mkF m 15 #[.val (.int x0), .val (.int (x0 &&& (3 : Int32))), .val (.int ((x0.toUInt32 >>> ((2 : Int32) &&& 31).toUInt32).toInt32))] [(.int ((x0.toUInt32 >>> ((2 : Int32) &&& 31).toUInt32).toInt32)), (.int (55296 : Int32))])
    refine Run.via (fun _ => XS.sipush X0.at X0.ex rfl (X0.de mkd_15)) ?_
    show Run _ _ _ _ _ _ _ _ _ _ _ _ T0 (mkF m 18 #[.val (.int x0), .val (.int (x0 &&& (3 : Int32))), .val (.int ((x0.toUInt32 >>> ((2 : Int32) &&& 31).toUInt32).toInt32))] [(.int (1023 : Int32)), (.int ((x0.toUInt32 >>> ((2 : Int32) &&& 31).toUInt32).toInt32)), (.int (55296 : Int32))])
    refine Run.via (fun _ => XS.iand X0.at X0.ex rfl (X0.de mkd_18) rfl) ?_
    show Run _ _ _ _ _ _ _ _ _ _ _ _ T0 (mkF m 19 #[.val (.int x0), .val (.int (x0 &&& (3 : Int32))), .val (.int ((x0.toUInt32 >>> ((2 : Int32) &&& 31).toUInt32).toInt32))] [(.int (((x0.toUInt32 >>> ((2 : Int32) &&& 31).toUInt32).toInt32) &&& (1023 : Int32))), (.int (55296 : Int32))])
    refine Run.via (fun _ => XS.ior X0.at X0.ex rfl (X0.de mkd_19) rfl) ?_
    show Run _ _ _ _ _ _ _ _ _ _ _ _ T0 (mkF m 20 #[.val (.int x0), .val (.int (x0 &&& (3 : Int32))), .val (.int ((x0.toUInt32 >>> ((2 : Int32) &&& 31).toUInt32).toInt32))] [(.int ((55296 : Int32) ||| (((x0.toUInt32 >>> ((2 : Int32) &&& 31).toUInt32).toInt32) &&& (1023 : Int32))))])
    refine Run.via (fun _ => XS.i2c X0.at X0.ex rfl (X0.de mkd_20) rfl) ?_
    show Run _ _ _ _ _ _ _ _ _ _ _ _ T0 (mkF m 21 #[.val (.int x0), .val (.int (x0 &&& (3 : Int32))), .val (.int ((x0.toUInt32 >>> ((2 : Int32) &&& 31).toUInt32).toInt32))] [(.int (((55296 : Int32) ||| (((x0.toUInt32 >>> ((2 : Int32) &&& 31).toUInt32).toInt32) &&& (1023 : Int32))).toUInt32.toUInt16.toUInt32.toInt32))])
    exact Run.retN X0 (t := .char) rfl (by simp) mkd_21 (Nat.le_of_ble_eq_true rfl) (Nat.le_of_ble_eq_true rfl) (⟨⟨_, by rw [nar_i2c], i2c_rng _⟩, rfl⟩)
  ·
    refine Run.via (fun _ => XS.ifYes X0.at X0.ex rfl (pc0 := 9) (pc' := 22) rfl (X0.de mkd_9) rfl ((if0 _ _).trans (feq q0).2) (by decide) (by decide)) ?_
    show Run _ _ _ _ _ _ _ _ _ _ _ _ T0 (mkF m 22 #[.val (.int x0), .val (.int (x0 &&& (3 : Int32))), .val (.int ((x0.toUInt32 >>> ((2 : Int32) &&& 31).toUInt32).toInt32))] [])
    refine Run.via (fun _ => XS.iloadN X0.at X0.ex rfl (X0.de mkd_22) rfl) ?_
    show Run _ _ _ _ _ _ _ _ _ _ _ _ T0 (mkF m 23 #[.val (.int x0), .val (.int (x0 &&& (3 : Int32))), .val (.int ((x0.toUInt32 >>> ((2 : Int32) &&& 31).toUInt32).toInt32))] [(.int (x0 &&& (3 : Int32)))])
    refine Run.via (fun _ => XS.iconst X0.at X0.ex rfl (X0.de mkd_23)) ?_
    show Run _ _ _ _ _ _ _ _ _ _ _ _ T0 (mkF m 24 #[.val (.int x0), .val (.int (x0 &&& (3 : Int32))), .val (.int ((x0.toUInt32 >>> ((2 : Int32) &&& 31).toUInt32).toInt32))] [(.int (1 : Int32)), (.int (x0 &&& (3 : Int32)))])
    by_cases q1 : (x0 &&& (3 : Int32)) = (1 : Int32)
    ·
      refine Run.via (fun _ => XS.icmpNo X0.at X0.ex rfl (X0.de mkd_24) rfl (teq q1).2) ?_
      show Run _ _ _ _ _ _ _ _ _ _ _ _ T0 (mkF m 27 #[.val (.int x0), .val (.int (x0 &&& (3 : Int32))), .val (.int ((x0.toUInt32 >>> ((2 : Int32) &&& 31).toUInt32).toInt32))] [])
      refine Run.ldcI X0 (wd hw 128 rfl) mkd_27 ?_
      show Run _ _ _ _ _ _ _ _ _ _ _ _ T0 (mkF m 29 #[.val (.int x0), .val (.int (x0 &&& (3 : Int32))), .val (.int ((x0.toUInt32 >>> ((2 : Int32) &&& 31).toUInt32).toInt32))] [(.int (56320 : Int32))])
      refine Run.via (fun _ => XS.iloadN X0.at X0.ex rfl (X0.de mkd_29) rfl) ?_
      show Run _ _ _ _ _ _ _ _ _ _ _ _ T0 (mkF m 30 #[.val (.int x0), .val (.int (x0 &&& (3 : Int32))), .val (.int ((x0.toUInt32 >>> ((2 : Int32) &&& 31).toUInt32).toInt32))] [(.int ((x0.toUInt32 >>> ((2 : Int32) &&& 31).toUInt32).toInt32)), (.int (56320 : Int32))])
      refine Run.via (fun _ => XS.sipush X0.at X0.ex rfl (X0.de mkd_30)) ?_
      show Run _ _ _ _ _ _ _ _ _ _ _ _ T0 (mkF m 33 #[.val (.int x0), .val (.int (x0 &&& (3 : Int32))), .val (.int ((x0.toUInt32 >>> ((2 : Int32) &&& 31).toUInt32).toInt32))] [(.int (1023 : Int32)), (.int ((x0.toUInt32 >>> ((2 : Int32) &&& 31).toUInt32).toInt32)), (.int (56320 : Int32))])
      refine Run.via (fun _ => XS.iand X0.at X0.ex rfl (X0.de mkd_33) rfl) ?_
      show Run _ _ _ _ _ _ _ _ _ _ _ _ T0 (mkF m 34 #[.val (.int x0), .val (.int (x0 &&& (3 : Int32))), .val (.int ((x0.toUInt32 >>> ((2 : Int32) &&& 31).toUInt32).toInt32))] [(.int (((x0.toUInt32 >>> ((2 : Int32) &&& 31).toUInt32).toInt32) &&& (1023 : Int32))), (.int (56320 : Int32))])
      refine Run.via (fun _ => XS.ior X0.at X0.ex rfl (X0.de mkd_34) rfl) ?_
      show Run _ _ _ _ _ _ _ _ _ _ _ _ T0 (mkF m 35 #[.val (.int x0), .val (.int (x0 &&& (3 : Int32))), .val (.int ((x0.toUInt32 >>> ((2 : Int32) &&& 31).toUInt32).toInt32))] [(.int ((56320 : Int32) ||| (((x0.toUInt32 >>> ((2 : Int32) &&& 31).toUInt32).toInt32) &&& (1023 : Int32))))])
      refine Run.via (fun _ => XS.i2c X0.at X0.ex rfl (X0.de mkd_35) rfl) ?_
      show Run _ _ _ _ _ _ _ _ _ _ _ _ T0 (mkF m 36 #[.val (.int x0), .val (.int (x0 &&& (3 : Int32))), .val (.int ((x0.toUInt32 >>> ((2 : Int32) &&& 31).toUInt32).toInt32))] [(.int (((56320 : Int32) ||| (((x0.toUInt32 >>> ((2 : Int32) &&& 31).toUInt32).toInt32) &&& (1023 : Int32))).toUInt32.toUInt16.toUInt32.toInt32))])
      exact Run.retN X0 (t := .char) rfl (by simp) mkd_36 (Nat.le_of_ble_eq_true rfl) (Nat.le_of_ble_eq_true rfl) (⟨⟨_, by rw [nar_i2c], i2c_rng _⟩, rfl⟩)
    ·
      refine Run.via (fun _ => XS.icmpYes X0.at X0.ex rfl (pc0 := 24) (pc' := 37) rfl (X0.de mkd_24) rfl (feq q1).2 (by decide) (by decide)) ?_
      show Run _ _ _ _ _ _ _ _ _ _ _ _ T0 (mkF m 37 #[.val (.int x0), .val (.int (x0 &&& (3 : Int32))), .val (.int ((x0.toUInt32 >>> ((2 : Int32) &&& 31).toUInt32).toInt32))] [])
      refine Run.via (fun _ => XS.iloadN X0.at X0.ex rfl (X0.de mkd_37) rfl) ?_
      show Run _ _ _ _ _ _ _ _ _ _ _ _ T0 (mkF m 38 #[.val (.int x0), .val (.int (x0 &&& (3 : Int32))), .val (.int ((x0.toUInt32 >>> ((2 : Int32) &&& 31).toUInt32).toInt32))] [(.int ((x0.toUInt32 >>> ((2 : Int32) &&& 31).toUInt32).toInt32))])
      refine Run.via (fun _ => XS.i2c X0.at X0.ex rfl (X0.de mkd_38) rfl) ?_
      show Run _ _ _ _ _ _ _ _ _ _ _ _ T0 (mkF m 39 #[.val (.int x0), .val (.int (x0 &&& (3 : Int32))), .val (.int ((x0.toUInt32 >>> ((2 : Int32) &&& 31).toUInt32).toInt32))] [(.int (((x0.toUInt32 >>> ((2 : Int32) &&& 31).toUInt32).toInt32).toUInt32.toUInt16.toUInt32.toInt32))])
      exact Run.retN X0 (t := .char) rfl (by simp) mkd_39 (Nat.le_of_ble_eq_true rfl) (Nat.le_of_ble_eq_true rfl) (⟨⟨_, by rw [nar_i2c], i2c_rng _⟩, rfl⟩)
-- part con_su
theorem sud_0 : decode method_5_code 0 = .ok (.iload_n 0, 1) := by decide +kernel
theorem sud_1 : decode method_5_code 1 = .ok (.invokestatic 11, 3) := by decide +kernel
theorem sud_4 : decode method_5_code 4 = .ok (.ifCond .ne 10, 3) := by decide +kernel
theorem sud_7 : decode method_5_code 7 = .ok (.iload_n 0, 1) := by decide +kernel
theorem sud_8 : decode method_5_code 8 = .ok (.invokestatic 17, 3) := by decide +kernel
theorem sud_11 : decode method_5_code 11 = .ok (.ifCond .eq 7, 3) := by decide +kernel
theorem sud_14 : decode method_5_code 14 = .ok (.iconst 1, 1) := by decide +kernel
theorem sud_15 : decode method_5_code 15 = .ok (.goto 4, 3) := by decide +kernel
theorem sud_18 : decode method_5_code 18 = .ok (.iconst 0, 1) := by decide +kernel
theorem sud_19 : decode method_5_code 19 = .ok (.ireturn, 1) := by decide +kernel
set_option maxRecDepth 65536 in
set_option maxHeartbeats 40000000 in
theorem con_su (l : Launch) {Z : State} {a0 : Array Value} {EL : List (String × Nat)} {h0 : Heap} (hw : ∀ d ∈ tables_1, d.before a0 Z = true) {ch : Int32} (O : Ext Z.heap h0) : Con l Z a0 EL false (⟨"com/example/shelfwright/shelfwright/catalog/TextsIsUnicodePinLaw", "sur", "(C)Z"⟩ : MethodName) method_5_code 1 (some .boolean) ({ frames := 1, cells := 0, slots := 0, locals := 16 } : Room) [] [] #[(.int ch)] h0 (fun v h => v = some (.int (surV ch)) ∧ h0 = h) := by
  refine Con.enter (plainFor_of_name (by first | (simp [plainName, overriddenIn]; done) | decide +kernel)) O ?_
  intro p e s m below meth c T0 X0
  rw [show entryFrame m #[(.int ch)] 1 = (mkF m 0 #[.val (.int ch)] []) from by first | (simp [entryFrame, mkF, argsToLocals, Value.category]; done) | rfl]
  refine Run.via (fun _ => XS.iloadN X0.at X0.ex rfl (X0.de sud_0) rfl) ?_
  show Run _ _ _ _ _ _ _ _ _ _ _ _ T0 (mkF m 1 #[.val (.int ch)] [(.int ch)])
  refine Run.callS X0 (y := (⟨"com/example/shelfwright/shelfwright/catalog/TextsIsUnicodePinLaw", "high", "(C)Z"⟩ : MethodName)) (W := 0) (con_hh l hw O) (wd hw 10 rfl) (wd hw 11 rfl) (wd hw 3 rfl) (wd hw 12 rfl) (by decide) pd__C_Z rfl (argsL := [(.int ch)]) (rest := []) rfl (Nat.le_of_ble_eq_true rfl) rfl sud_1 (by decide) (by decide) (Nat.le_of_ble_eq_true rfl) (Nat.le_of_ble_eq_true rfl) (nofun) (nofun) ?_
  intro v101 T101 h101 L101 q101 X101 XF101 K101
  obtain ⟨rfl, rfl⟩ := q101
  show Run _ _ _ _ _ _ _ _ _ _ _ _ T101 (mkF m 4 #[.val (.int ch)] [(.int (hiV ch))])
  by_cases q1 : (hiV ch) = (0 : Int32)
  ·
    refine Run.via (fun _ => XS.ifNo X101.at X101.ex rfl (X101.de sud_4) rfl ((if0 _ _).trans (teq q1).2)) ?_
    show Run _ _ _ _ _ _ _ _ _ _ _ _ T101 (mkF m 7 #[.val (.int ch)] [])
    refine Run.via (fun _ => XS.iloadN X101.at X101.ex rfl (X101.de sud_7) rfl) ?_
    show Run _ _ _ _ _ _ _ _ _ _ _ _ T101 (mkF m 8 #[.val (.int ch)] [(.int ch)])
    refine Run.callS X101 (y := (⟨"com/example/shelfwright/shelfwright/catalog/TextsIsUnicodePinLaw", "low", "(C)Z"⟩ : MethodName)) (W := 0) (con_ll l hw O) (wd hw 125 rfl) (wd hw 126 rfl) (wd hw 3 rfl) (wd hw 127 rfl) (by decide) pd__C_Z rfl (argsL := [(.int ch)]) (rest := []) rfl (Nat.le_of_ble_eq_true rfl) rfl sud_8 (by decide) (by decide) (Nat.le_of_ble_eq_true rfl) (Nat.le_of_ble_eq_true rfl) (nofun) (nofun) ?_
    intro v102 T102 h102 L102 q102 X102 XF102 K102
    obtain ⟨rfl, rfl⟩ := q102
    show Run _ _ _ _ _ _ _ _ _ _ _ _ T102 (mkF m 11 #[.val (.int ch)] [(.int (loV ch))])
    by_cases q2 : (loV ch) = (0 : Int32)
    ·
      refine Run.via (fun _ => XS.ifYes X102.at X102.ex rfl (pc0 := 11) (pc' := 18) rfl (X102.de sud_11) rfl ((if0 _ _).trans (teq q2).1) (by decide) (by decide)) ?_
      show Run _ _ _ _ _ _ _ _ _ _ _ _ T102 (mkF m 18 #[.val (.int ch)] [])
      refine Run.via (fun _ => XS.iconst X102.at X102.ex rfl (X102.de sud_18)) ?_
      show Run _ _ _ _ _ _ _ _ _ _ _ _ T102 (mkF m 19 #[.val (.int ch)] [(.int (0 : Int32))])
      exact Run.retN X102 (t := .boolean) rfl (by simp) sud_19 (Nat.le_of_ble_eq_true rfl) (Nat.le_of_ble_eq_true rfl) (⟨by unfold surV; rw [if_pos ⟨q1, q2⟩]; rfl, rfl⟩)
    ·
      refine Run.via (fun _ => XS.ifNo X102.at X102.ex rfl (X102.de sud_11) rfl ((if0 _ _).trans (feq q2).1)) ?_
      show Run _ _ _ _ _ _ _ _ _ _ _ _ T102 (mkF m 14 #[.val (.int ch)] [])
      refine Run.via (fun _ => XS.iconst X102.at X102.ex rfl (X102.de sud_14)) ?_
      show Run _ _ _ _ _ _ _ _ _ _ _ _ T102 (mkF m 15 #[.val (.int ch)] [(.int (1 : Int32))])
      refine Run.via (fun _ => XS.goto X102.at X102.ex rfl (pc0 := 15) (pc' := 19) rfl (X102.de sud_15) (by decide) (by decide)) ?_
      show Run _ _ _ _ _ _ _ _ _ _ _ _ T102 (mkF m 19 #[.val (.int ch)] [(.int (1 : Int32))])
      exact Run.retN X102 (t := .boolean) rfl (by simp) sud_19 (Nat.le_of_ble_eq_true rfl) (Nat.le_of_ble_eq_true rfl) (⟨by unfold surV; rw [if_neg (fun z => q2 z.2)]; rfl, rfl⟩)
  ·
    refine Run.via (fun _ => XS.ifYes X101.at X101.ex rfl (pc0 := 4) (pc' := 14) rfl (X101.de sud_4) rfl ((if0 _ _).trans (feq q1).2) (by decide) (by decide)) ?_
    show Run _ _ _ _ _ _ _ _ _ _ _ _ T101 (mkF m 14 #[.val (.int ch)] [])
    refine Run.via (fun _ => XS.iconst X101.at X101.ex rfl (X101.de sud_14)) ?_
    show Run _ _ _ _ _ _ _ _ _ _ _ _ T101 (mkF m 15 #[.val (.int ch)] [(.int (1 : Int32))])
    refine Run.via (fun _ => XS.goto X101.at X101.ex rfl (pc0 := 15) (pc' := 19) rfl (X101.de sud_15) (by decide) (by decide)) ?_
    show Run _ _ _ _ _ _ _ _ _ _ _ _ T101 (mkF m 19 #[.val (.int ch)] [(.int (1 : Int32))])
    exact Run.retN X101 (t := .boolean) rfl (by simp) sud_19 (Nat.le_of_ble_eq_true rfl) (Nat.le_of_ble_eq_true rfl) (⟨by unfold surV; rw [if_neg (fun z => q1 z.1)]; rfl, rfl⟩)
-- part con_pa
theorem pad_0 : decode method_6_code 0 = .ok (.iload_n 0, 1) := by decide +kernel
theorem pad_1 : decode method_6_code 1 = .ok (.invokestatic 11, 3) := by decide +kernel
theorem pad_4 : decode method_6_code 4 = .ok (.ifCond .eq 14, 3) := by decide +kernel
theorem pad_7 : decode method_6_code 7 = .ok (.iload_n 1, 1) := by decide +kernel
theorem pad_8 : decode method_6_code 8 = .ok (.invokestatic 17, 3) := by decide +kernel
theorem pad_11 : decode method_6_code 11 = .ok (.ifCond .eq 7, 3) := by decide +kernel
theorem pad_14 : decode method_6_code 14 = .ok (.iconst 1, 1) := by decide +kernel
theorem pad_15 : decode method_6_code 15 = .ok (.goto 4, 3) := by decide +kernel
theorem pad_18 : decode method_6_code 18 = .ok (.iconst 0, 1) := by decide +kernel
theorem pad_19 : decode method_6_code 19 = .ok (.ireturn, 1) := by decide +kernel
set_option maxRecDepth 65536 in
set_option maxHeartbeats 40000000 in
theorem con_pa (l : Launch) {Z : State} {a0 : Array Value} {EL : List (String × Nat)} {h0 : Heap} (hw : ∀ d ∈ tables_1, d.before a0 Z = true) {ch dh : Int32} (O : Ext Z.heap h0) : Con l Z a0 EL false (⟨"com/example/shelfwright/shelfwright/catalog/TextsIsUnicodePinLaw", "pair", "(CC)Z"⟩ : MethodName) method_6_code 2 (some .boolean) ({ frames := 1, cells := 0, slots := 0, locals := 16 } : Room) [] [] #[(.int ch), (.int dh)] h0 (fun v h => v = some (.int (pairV ch dh)) ∧ h0 = h) := by
  refine Con.enter (plainFor_of_name (by first | (simp [plainName, overriddenIn]; done) | decide +kernel)) O ?_
  intro p e s m below meth c T0 X0
  rw [show entryFrame m #[(.int ch), (.int dh)] 2 = (mkF m 0 #[.val (.int ch), .val (.int dh)] []) from by first | (simp [entryFrame, mkF, argsToLocals, Value.category]; done) | rfl]
  refine Run.via (fun _ => XS.iloadN X0.at X0.ex rfl (X0.de pad_0) rfl) ?_
  show Run _ _ _ _ _ _ _ _ _ _ _ _ T0 (mkF m 1 #[.val (.int ch), .val (.int dh)] [(.int ch)])
  refine Run.callS X0 (y := (⟨"com/example/shelfwright/shelfwright/catalog/TextsIsUnicodePinLaw", "high", "(C)Z"⟩ : MethodName)) (W := 0) (con_hh l hw O) (wd hw 10 rfl) (wd hw 11 rfl) (wd hw 3 rfl) (wd hw 12 rfl) (by decide) pd__C_Z rfl (argsL := [(.int ch)]) (rest := []) rfl (Nat.le_of_ble_eq_true rfl) rfl pad_1 (by decide) (by decide) (Nat.le_of_ble_eq_true rfl) (Nat.le_of_ble_eq_true rfl) (nofun) (nofun) ?_
  intro v101 T101 h101 L101 q101 X101 XF101 K101
  obtain ⟨rfl, rfl⟩ := q101
  show Run _ _ _ _ _ _ _ _ _ _ _ _ T101 (mkF m 4 #[.val (.int ch), .val (.int dh)] [(.int (hiV ch))])
  by_cases q1 : (hiV ch) = (0 : Int32)
  ·
    refine Run.via (fun _ => XS.ifYes X101.at X101.ex rfl (pc0 := 4) (pc' := 18) rfl (X101.de pad_4) rfl ((if0 _ _).trans (teq q1).1) (by decide) (by decide)) ?_
    show Run _ _ _ _ _ _ _ _ _ _ _ _ T101 (mkF m 18 #[.val (.int ch), .val (.int dh)] [])
    refine Run.via (fun _ => XS.iconst X101.at X101.ex rfl (X101.de pad_18)) ?_
    show Run _ _ _ _ _ _ _ _ _ _ _ _ T101 (mkF m 19 #[.val (.int ch), .val (.int dh)] [(.int (0 : Int32))])
    exact Run.retN X101 (t := .boolean) rfl (by simp) pad_19 (Nat.le_of_ble_eq_true rfl) (Nat.le_of_ble_eq_true rfl) (⟨by unfold pairV; rw [if_pos (Or.inl q1)]; rfl, rfl⟩)
  ·
    refine Run.via (fun _ => XS.ifNo X101.at X101.ex rfl (X101.de pad_4) rfl ((if0 _ _).trans (feq q1).1)) ?_
    show Run _ _ _ _ _ _ _ _ _ _ _ _ T101 (mkF m 7 #[.val (.int ch), .val (.int dh)] [])
    refine Run.via (fun _ => XS.iloadN X101.at X101.ex rfl (X101.de pad_7) rfl) ?_
    show Run _ _ _ _ _ _ _ _ _ _ _ _ T101 (mkF m 8 #[.val (.int ch), .val (.int dh)] [(.int dh)])
    refine Run.callS X101 (y := (⟨"com/example/shelfwright/shelfwright/catalog/TextsIsUnicodePinLaw", "low", "(C)Z"⟩ : MethodName)) (W := 0) (con_ll l hw O) (wd hw 125 rfl) (wd hw 126 rfl) (wd hw 3 rfl) (wd hw 127 rfl) (by decide) pd__C_Z rfl (argsL := [(.int dh)]) (rest := []) rfl (Nat.le_of_ble_eq_true rfl) rfl pad_8 (by decide) (by decide) (Nat.le_of_ble_eq_true rfl) (Nat.le_of_ble_eq_true rfl) (nofun) (nofun) ?_
    intro v102 T102 h102 L102 q102 X102 XF102 K102
    obtain ⟨rfl, rfl⟩ := q102
    show Run _ _ _ _ _ _ _ _ _ _ _ _ T102 (mkF m 11 #[.val (.int ch), .val (.int dh)] [(.int (loV dh))])
    by_cases q2 : (loV dh) = (0 : Int32)
    ·
      refine Run.via (fun _ => XS.ifYes X102.at X102.ex rfl (pc0 := 11) (pc' := 18) rfl (X102.de pad_11) rfl ((if0 _ _).trans (teq q2).1) (by decide) (by decide)) ?_
      show Run _ _ _ _ _ _ _ _ _ _ _ _ T102 (mkF m 18 #[.val (.int ch), .val (.int dh)] [])
      refine Run.via (fun _ => XS.iconst X102.at X102.ex rfl (X102.de pad_18)) ?_
      show Run _ _ _ _ _ _ _ _ _ _ _ _ T102 (mkF m 19 #[.val (.int ch), .val (.int dh)] [(.int (0 : Int32))])
      exact Run.retN X102 (t := .boolean) rfl (by simp) pad_19 (Nat.le_of_ble_eq_true rfl) (Nat.le_of_ble_eq_true rfl) (⟨by unfold pairV; rw [if_pos (Or.inr q2)]; rfl, rfl⟩)
    ·
      refine Run.via (fun _ => XS.ifNo X102.at X102.ex rfl (X102.de pad_11) rfl ((if0 _ _).trans (feq q2).1)) ?_
      show Run _ _ _ _ _ _ _ _ _ _ _ _ T102 (mkF m 14 #[.val (.int ch), .val (.int dh)] [])
      refine Run.via (fun _ => XS.iconst X102.at X102.ex rfl (X102.de pad_14)) ?_
      show Run _ _ _ _ _ _ _ _ _ _ _ _ T102 (mkF m 15 #[.val (.int ch), .val (.int dh)] [(.int (1 : Int32))])
      refine Run.via (fun _ => XS.goto X102.at X102.ex rfl (pc0 := 15) (pc' := 19) rfl (X102.de pad_15) (by decide) (by decide)) ?_
      show Run _ _ _ _ _ _ _ _ _ _ _ _ T102 (mkF m 19 #[.val (.int ch), .val (.int dh)] [(.int (1 : Int32))])
      exact Run.retN X102 (t := .boolean) rfl (by simp) pad_19 (Nat.le_of_ble_eq_true rfl) (Nat.le_of_ble_eq_true rfl) (⟨by unfold pairV; rw [if_neg (fun z => z.elim q1 q2)]; rfl, rfl⟩)
-- part con_iu
theorem iud_0 : decode prog_21_method_2_code 0 = .ok (.iconst 0, 1) := by decide +kernel
theorem iud_1 : decode prog_21_method_2_code 1 = .ok (.istore_n 1, 1) := by decide +kernel
theorem iud_2 : decode prog_21_method_2_code 2 = .ok (.iload_n 1, 1) := by decide +kernel
theorem iud_3 : decode prog_21_method_2_code 3 = .ok (.aload_n 0, 1) := by decide +kernel
theorem iud_4 : decode prog_21_method_2_code 4 = .ok (.invokevirtual 7, 3) := by decide +kernel
theorem iud_7 : decode prog_21_method_2_code 7 = .ok (.if_icmp .ge 19, 3) := by decide +kernel
theorem iud_10 : decode prog_21_method_2_code 10 = .ok (.aload_n 0, 1) := by decide +kernel
theorem iud_11 : decode prog_21_method_2_code 11 = .ok (.iload_n 1, 1) := by decide +kernel
theorem iud_12 : decode prog_21_method_2_code 12 = .ok (.invokestatic 13, 3) := by decide +kernel
theorem iud_15 : decode prog_21_method_2_code 15 = .ok (.ifCond .eq 5, 3) := by decide +kernel
theorem iud_18 : decode prog_21_method_2_code 18 = .ok (.iconst 0, 1) := by decide +kernel
theorem iud_19 : decode prog_21_method_2_code 19 = .ok (.ireturn, 1) := by decide +kernel
theorem iud_20 : decode prog_21_method_2_code 20 = .ok (.iinc 1 1, 3) := by decide +kernel
theorem iud_23 : decode prog_21_method_2_code 23 = .ok (.goto (-21), 3) := by decide +kernel
theorem iud_26 : decode prog_21_method_2_code 26 = .ok (.iconst 1, 1) := by decide +kernel
theorem iud_27 : decode prog_21_method_2_code 27 = .ok (.ireturn, 1) := by decide +kernel
set_option maxRecDepth 65536 in
set_option maxHeartbeats 40000000 in
theorem con_iu (l : Launch) {Z : State} {a0 : Array Value} {EL : List (String × Nat)} {h0 : Heap} (hw : ∀ d ∈ tables_1, d.before a0 Z = true) (hS : Sets Z) (hU : Sets16 Z) {a : Addr} {cs : List Int32} (hn : cs.length ≤ 4) (S : Str Z h0 a cs) (O : Ext Z.heap h0) : Con l Z a0 EL false (⟨"com/example/shelfwright/shelfwright/catalog/Texts", "isUnicode", "(Ljava/lang/String;)Z"⟩ : MethodName) prog_21_method_2_code 2 (some .boolean) ({ frames := 6, cells := 0, slots := 0, locals := 96 } : Room) [] [] #[(.ref a)] h0 (fun v _ => v = some (.int (uniV cs))) := by
  refine Con.enter (plainFor_of_name (by first | (simp [plainName, overriddenIn]; done) | decide +kernel)) O ?_
  intro p e s m below meth c T0 X0
  rw [show entryFrame m #[(.ref a)] 2 = (mkF m 0 #[.val (.ref a), .unset] []) from by first | (simp [entryFrame, mkF, argsToLocals, Value.category]; done) | rfl]
  refine Run.via (fun _ => XS.iconst X0.at X0.ex rfl (X0.de iud_0)) ?_
  show Run _ _ _ _ _ _ _ _ _ _ _ _ T0 (mkF m 1 #[.val (.ref a), .unset] [(.int (0 : Int32))])
  refine Run.via (fun _ => XS.istoreN X0.at X0.ex rfl (X0.de iud_1) rfl (l' := #[.val (.ref a), .val (.int (0 : Int32))]) rfl) ?_
  show Run _ _ _ _ _ _ _ _ _ _ _ _ T0 (mkF m 2 #[.val (.ref a), .val (.int (0 : Int32))] [])
  have E := S.1
  have loop : ∀ (d i : Nat), cs.length - i = d → i ≤ cs.length → ∀ (Tl : State) (Lq : List Loc), Sit Z a0 EL p l e ({ frames := 6, cells := 0, slots := 0, locals := 96 } : Room) s m #[(.ref a)] below meth c "com/example/shelfwright/shelfwright/catalog/Texts" prog_21_method_2_code 2 (some .boolean) "isUnicode" h0 [] [] Tl h0 Lq 0 0 → (∀ j, j < i → lone cs j = 0) → Run Z EL false p e below s h0 [] (fun v _ => v = some (.int (uniV cs))) ({ frames := 6, cells := 0, slots := 0, locals := 96 } : Room).cells ({ frames := 6, cells := 0, slots := 0, locals := 96 } : Room).slots Tl (mkF m 2 #[.val (.ref a), .val (.int (Int32.ofNat i))] []) := by
    intro d
    induction d with
    | zero =>
      intro i hd hi Tl Lq Xl hf
      refine Run.via (fun _ => XS.iloadN Xl.at Xl.ex rfl (Xl.de iud_2) rfl) ?_
      show Run _ _ _ _ _ _ _ _ _ _ _ _ Tl (mkF m 3 #[.val (.ref a), .val (.int (Int32.ofNat i))] [(.int (Int32.ofNat i))])
      refine Run.via (fun _ => XS.aloadN Xl.at Xl.ex rfl (Xl.de iud_3) rfl rfl) ?_
      show Run _ _ _ _ _ _ _ _ _ _ _ _ Tl (mkF m 4 #[.val (.ref a), .val (.int (Int32.ofNat i))] [(.ref a), (.int (Int32.ofNat i))])
      refine Run.callV Xl (y := (⟨"java/lang/String", "length", "()I"⟩ : MethodName)) (W := 1) (con_ln l hw hS (by omega) S O) E (wd hw 66 rfl) (wd hw 67 rfl) (wd hw 68 rfl) (wd hw 69 rfl) (wd hw 16 rfl) (wd hw 70 rfl) (by decide) pd___I rfl (argsL := []) (rest := [(.int (Int32.ofNat i))]) rfl (Nat.le_of_ble_eq_true rfl) rfl iud_4 (by decide) (by decide) (Nat.le_of_ble_eq_true rfl) (Nat.le_of_ble_eq_true rfl) (nofun) (nofun) ?_
      intro v101 T101 h101 L101 q101 X101 XF101 K101
      obtain ⟨rfl, rfl⟩ := q101
      show Run _ _ _ _ _ _ _ _ _ _ _ _ T101 (mkF m 7 #[.val (.ref a), .val (.int (Int32.ofNat i))] [(.int (Int32.ofNat cs.length)), (.int (Int32.ofNat i))])
      obtain rfl : i = cs.length := by omega
      refine Run.via (fun _ => XS.icmpYes X101.at X101.ex rfl (pc0 := 7) (pc' := 26) rfl (X101.de iud_7) rfl (flt (Int32.lt_irrefl : ¬ Int32.ofNat cs.length < Int32.ofNat cs.length)).2.1 (by decide) (by decide)) ?_
      show Run _ _ _ _ _ _ _ _ _ _ _ _ T101 (mkF m 26 #[.val (.ref a), .val (.int (Int32.ofNat cs.length))] [])
      refine Run.via (fun _ => XS.iconst X101.at X101.ex rfl (X101.de iud_26)) ?_
      show Run _ _ _ _ _ _ _ _ _ _ _ _ T101 (mkF m 27 #[.val (.ref a), .val (.int (Int32.ofNat cs.length))] [(.int (1 : Int32))])
      exact Run.retN X101 (t := .boolean) rfl (by simp) iud_27 (Nat.le_of_ble_eq_true rfl) (Nat.le_of_ble_eq_true rfl) (by unfold uniV; rw [if_pos hf]; rfl)
    | succ d ih =>
      intro i hd hi Tl Lq Xl hf
      refine Run.via (fun _ => XS.iloadN Xl.at Xl.ex rfl (Xl.de iud_2) rfl) ?_
      show Run _ _ _ _ _ _ _ _ _ _ _ _ Tl (mkF m 3 #[.val (.ref a), .val (.int (Int32.ofNat i))] [(.int (Int32.ofNat i))])
      refine Run.via (fun _ => XS.aloadN Xl.at Xl.ex rfl (Xl.de iud_3) rfl rfl) ?_
      show Run _ _ _ _ _ _ _ _ _ _ _ _ Tl (mkF m 4 #[.val (.ref a), .val (.int (Int32.ofNat i))] [(.ref a), (.int (Int32.ofNat i))])
      refine Run.callV Xl (y := (⟨"java/lang/String", "length", "()I"⟩ : MethodName)) (W := 1) (con_ln l hw hS (by omega) S O) E (wd hw 66 rfl) (wd hw 67 rfl) (wd hw 68 rfl) (wd hw 69 rfl) (wd hw 16 rfl) (wd hw 70 rfl) (by decide) pd___I rfl (argsL := []) (rest := [(.int (Int32.ofNat i))]) rfl (Nat.le_of_ble_eq_true rfl) rfl iud_4 (by decide) (by decide) (Nat.le_of_ble_eq_true rfl) (Nat.le_of_ble_eq_true rfl) (nofun) (nofun) ?_
      intro v102 T102 h102 L102 q102 X102 XF102 K102
      obtain ⟨rfl, rfl⟩ := q102
      show Run _ _ _ _ _ _ _ _ _ _ _ _ T102 (mkF m 7 #[.val (.ref a), .val (.int (Int32.ofNat i))] [(.int (Int32.ofNat cs.length)), (.int (Int32.ofNat i))])
      have hi' : i < cs.length := by omega
      refine Run.via (fun _ => XS.icmpNo X102.at X102.ex rfl (X102.de iud_7) rfl (tlt ((i32lt (by omega) (by omega)).mpr hi')).2.1) ?_
      show Run _ _ _ _ _ _ _ _ _ _ _ _ T102 (mkF m 10 #[.val (.ref a), .val (.int (Int32.ofNat i))] [])
      refine Run.via (fun _ => XS.aloadN X102.at X102.ex rfl (X102.de iud_10) rfl rfl) ?_
      show Run _ _ _ _ _ _ _ _ _ _ _ _ T102 (mkF m 11 #[.val (.ref a), .val (.int (Int32.ofNat i))] [(.ref a)])
      refine Run.via (fun _ => XS.iloadN X102.at X102.ex rfl (X102.de iud_11) rfl) ?_
      show Run _ _ _ _ _ _ _ _ _ _ _ _ T102 (mkF m 12 #[.val (.ref a), .val (.int (Int32.ofNat i))] [(.int (Int32.ofNat i)), (.ref a)])
      refine Run.callS X102 (y := (⟨"com/example/shelfwright/shelfwright/catalog/Texts", "isLoneSurrogate", "(Ljava/lang/CharSequence;I)Z"⟩ : MethodName)) (W := 0) (con_is l hw hS hU hn hi' S O) (wd hw 76 rfl) (wd hw 77 rfl) (wd hw 64 rfl) (wd hw 78 rfl) (by decide) pd__Ljava_lang_CharSequence_I_Z rfl (argsL := [(.ref a), (.int (Int32.ofNat i))]) (rest := []) rfl (Nat.le_of_ble_eq_true rfl) rfl iud_12 (by decide) (by decide) (Nat.le_of_ble_eq_true rfl) (Nat.le_of_ble_eq_true rfl) (nofun) (nofun) ?_
      intro v103 T103 h103 L103 q103 X103 XF103 K103
      obtain ⟨rfl, rfl⟩ := q103
      show Run _ _ _ _ _ _ _ _ _ _ _ _ T103 (mkF m 15 #[.val (.ref a), .val (.int (Int32.ofNat i))] [(.int (lone cs i))])
      by_cases q1 : (lone cs i) = (0 : Int32)
      ·
        refine Run.via (fun _ => XS.ifYes X103.at X103.ex rfl (pc0 := 15) (pc' := 20) rfl (X103.de iud_15) rfl ((if0 _ _).trans (teq q1).1) (by decide) (by decide)) ?_
        show Run _ _ _ _ _ _ _ _ _ _ _ _ T103 (mkF m 20 #[.val (.ref a), .val (.int (Int32.ofNat i))] [])
        refine Run.via (fun _ => XS.iinc X103.at X103.ex rfl (X103.de iud_20) rfl (l' := #[.val (.ref a), .val (.int ((Int32.ofNat i) + (1 : Int32)))]) rfl) ?_
        show Run _ _ _ _ _ _ _ _ _ _ _ _ T103 (mkF m 23 #[.val (.ref a), .val (.int ((Int32.ofNat i) + (1 : Int32)))] [])
        refine Run.via (fun _ => XS.goto X103.at X103.ex rfl (pc0 := 23) (pc' := 2) rfl (X103.de iud_23) (by decide) (by decide)) ?_
        show Run _ _ _ _ _ _ _ _ _ _ _ _ T103 (mkF m 2 #[.val (.ref a), .val (.int ((Int32.ofNat i) + (1 : Int32)))] [])
        rw [i32succ (by omega)]
        exact ih (i + 1) (by omega) (by omega) _ _ X103 (fun j hj => (Nat.lt_succ_iff_lt_or_eq.mp hj).elim (hf j) (fun z => z ▸ q1))
      ·
        refine Run.via (fun _ => XS.ifNo X103.at X103.ex rfl (X103.de iud_15) rfl ((if0 _ _).trans (feq q1).1)) ?_
        show Run _ _ _ _ _ _ _ _ _ _ _ _ T103 (mkF m 18 #[.val (.ref a), .val (.int (Int32.ofNat i))] [])
        refine Run.via (fun _ => XS.iconst X103.at X103.ex rfl (X103.de iud_18)) ?_
        show Run _ _ _ _ _ _ _ _ _ _ _ _ T103 (mkF m 19 #[.val (.ref a), .val (.int (Int32.ofNat i))] [(.int (0 : Int32))])
        exact Run.retN X103 (t := .boolean) rfl (by simp) iud_19 (Nat.le_of_ble_eq_true rfl) (Nat.le_of_ble_eq_true rfl) (by unfold uniV; rw [if_neg (fun z => q1 (z i hi'))]; rfl)
  exact loop cs.length 0 (by omega) (by omega) _ _ X0 (fun j hj => absurd hj (Nat.not_lt_zero j))
-- part con_law
set_option maxRecDepth 65536 in
set_option maxHeartbeats 40000000 in
theorem con_law (l : Launch) {Z : State} {a0 : Array Value} {EL : List (String × Nat)} {h0 : Heap} (hw : ∀ d ∈ tables_1, d.before a0 Z = true) (hS : Sets Z) (hU : Sets16 Z) (hN : NW = false) (hm : ("java/lang/String", 7) ∈ EL) {x0 x1 x2 len : Int32} (O : Ext Z.heap h0) : Con l Z a0 EL false x code maxLocals ret room_1 [] [] #[(.int x0), (.int x1), (.int x2), (.int len)] h0 (fun v _ => v = some (.int 1)) := by
  refine Con.enter (plainFor_of_name (by first | (simp [plainName, overriddenIn]; done) | decide +kernel)) O ?_
  intro p e s m below meth c T0 X0
  rw [show entryFrame m #[(.int x0), (.int x1), (.int x2), (.int len)] maxLocals = (mkF m 0 #[.val (.int x0), .val (.int x1), .val (.int x2), .val (.int len), .unset, .unset, .unset, .unset, .unset, .unset] []) from by first | (simp [entryFrame, mkF, argsToLocals, Value.category, maxLocals]; done) | rfl]
  have ho := O.1
  refine Run.via (fun _ => XS.iloadN X0.at X0.ex rfl (X0.de at_0) rfl) ?_
  show Run _ _ _ _ _ _ _ _ _ _ _ _ T0 (mkF m 1 #[.val (.int x0), .val (.int x1), .val (.int x2), .val (.int len), .unset, .unset, .unset, .unset, .unset, .unset] [(.int len)])
  refine Run.ldcI X0 (wd hw 0 rfl) at_1 ?_
  show Run _ _ _ _ _ _ _ _ _ _ _ _ T0 (mkF m 3 #[.val (.int x0), .val (.int x1), .val (.int x2), .val (.int len), .unset, .unset, .unset, .unset, .unset, .unset] [(.int (2147483647 : Int32)), (.int len)])
  refine Run.via (fun _ => XS.iand X0.at X0.ex rfl (X0.de at_3) rfl) ?_
  show Run _ _ _ _ _ _ _ _ _ _ _ _ T0 (mkF m 4 #[.val (.int x0), .val (.int x1), .val (.int x2), .val (.int len), .unset, .unset, .unset, .unset, .unset, .unset] [(.int (len &&& (2147483647 : Int32)))])
  refine Run.via (fun _ => XS.iconst X0.at X0.ex rfl (X0.de at_4)) ?_
  show Run _ _ _ _ _ _ _ _ _ _ _ _ T0 (mkF m 5 #[.val (.int x0), .val (.int x1), .val (.int x2), .val (.int len), .unset, .unset, .unset, .unset, .unset, .unset] [(.int (4 : Int32)), (.int (len &&& (2147483647 : Int32)))])
  refine Run.irem X0 at_5 (by decide) ?_
  show Run _ _ _ _ _ _ _ _ _ _ _ _ T0 (mkF m 6 #[.val (.int x0), .val (.int x1), .val (.int x2), .val (.int len), .unset, .unset, .unset, .unset, .unset, .unset] [(.int ((len &&& (2147483647 : Int32)) % (4 : Int32)))])
  generalize hsz : ((len &&& (2147483647 : Int32)) % (4 : Int32)) = n
  show Run _ _ _ _ _ _ _ _ _ _ _ _ T0 (mkF m 6 #[.val (.int x0), .val (.int x1), .val (.int x2), .val (.int len), .unset, .unset, .unset, .unset, .unset, .unset] [(.int n)])
  refine Run.via (fun _ => XS.istore X0.at X0.ex rfl (X0.de at_6) rfl (l' := #[.val (.int x0), .val (.int x1), .val (.int x2), .val (.int len), .val (.int n), .unset, .unset, .unset, .unset, .unset]) rfl) ?_
  show Run _ _ _ _ _ _ _ _ _ _ _ _ T0 (mkF m 8 #[.val (.int x0), .val (.int x1), .val (.int x2), .val (.int len), .val (.int n), .unset, .unset, .unset, .unset, .unset] [])
  refine Run.via (fun _ => XS.iloadN X0.at X0.ex rfl (X0.de at_8) rfl) ?_
  show Run _ _ _ _ _ _ _ _ _ _ _ _ T0 (mkF m 9 #[.val (.int x0), .val (.int x1), .val (.int x2), .val (.int len), .val (.int n), .unset, .unset, .unset, .unset, .unset] [(.int x0)])
  refine Run.callS X0 (y := (⟨"com/example/shelfwright/shelfwright/catalog/TextsIsUnicodePinLaw", "mk", "(I)C"⟩ : MethodName)) (W := 0) (con_mk l hw X0.old) (wd hw 1 rfl) (wd hw 2 rfl) (wd hw 3 rfl) (wd hw 4 rfl) (by decide) pd__I_C rfl (argsL := [(.int x0)]) (rest := []) rfl (Nat.le_of_ble_eq_true rfl) rfl at_9 (by decide) (by decide) (Nat.le_of_ble_eq_true rfl) (Nat.le_of_ble_eq_true rfl) (nofun) (nofun) ?_
  intro v101 T101 h101 L101 q101 X101 XF101 K101
  obtain ⟨⟨c0, rfl, r0⟩, rfl⟩ := q101
  show Run _ _ _ _ _ _ _ _ _ _ _ _ T101 (mkF m 12 #[.val (.int x0), .val (.int x1), .val (.int x2), .val (.int len), .val (.int n), .unset, .unset, .unset, .unset, .unset] [(.int c0)])
  refine Run.via (fun _ => XS.istore X101.at X101.ex rfl (X101.de at_12) rfl (l' := #[.val (.int x0), .val (.int x1), .val (.int x2), .val (.int len), .val (.int n), .val (.int c0), .unset, .unset, .unset, .unset]) rfl) ?_
  show Run _ _ _ _ _ _ _ _ _ _ _ _ T101 (mkF m 14 #[.val (.int x0), .val (.int x1), .val (.int x2), .val (.int len), .val (.int n), .val (.int c0), .unset, .unset, .unset, .unset] [])
  refine Run.via (fun _ => XS.iloadN X101.at X101.ex rfl (X101.de at_14) rfl) ?_
  show Run _ _ _ _ _ _ _ _ _ _ _ _ T101 (mkF m 15 #[.val (.int x0), .val (.int x1), .val (.int x2), .val (.int len), .val (.int n), .val (.int c0), .unset, .unset, .unset, .unset] [(.int x1)])
  refine Run.callS X101 (y := (⟨"com/example/shelfwright/shelfwright/catalog/TextsIsUnicodePinLaw", "mk", "(I)C"⟩ : MethodName)) (W := 0) (con_mk l hw X101.old) (wd hw 1 rfl) (wd hw 2 rfl) (wd hw 3 rfl) (wd hw 4 rfl) (by decide) pd__I_C rfl (argsL := [(.int x1)]) (rest := []) rfl (Nat.le_of_ble_eq_true rfl) rfl at_15 (by decide) (by decide) (Nat.le_of_ble_eq_true rfl) (Nat.le_of_ble_eq_true rfl) (nofun) (nofun) ?_
  intro v102 T102 h102 L102 q102 X102 XF102 K102
  obtain ⟨⟨c1, rfl, r1⟩, rfl⟩ := q102
  show Run _ _ _ _ _ _ _ _ _ _ _ _ T102 (mkF m 18 #[.val (.int x0), .val (.int x1), .val (.int x2), .val (.int len), .val (.int n), .val (.int c0), .unset, .unset, .unset, .unset] [(.int c1)])
  refine Run.via (fun _ => XS.istore X102.at X102.ex rfl (X102.de at_18) rfl (l' := #[.val (.int x0), .val (.int x1), .val (.int x2), .val (.int len), .val (.int n), .val (.int c0), .val (.int c1), .unset, .unset, .unset]) rfl) ?_
  show Run _ _ _ _ _ _ _ _ _ _ _ _ T102 (mkF m 20 #[.val (.int x0), .val (.int x1), .val (.int x2), .val (.int len), .val (.int n), .val (.int c0), .val (.int c1), .unset, .unset, .unset] [])
  refine Run.via (fun _ => XS.iloadN X102.at X102.ex rfl (X102.de at_20) rfl) ?_
  show Run _ _ _ _ _ _ _ _ _ _ _ _ T102 (mkF m 21 #[.val (.int x0), .val (.int x1), .val (.int x2), .val (.int len), .val (.int n), .val (.int c0), .val (.int c1), .unset, .unset, .unset] [(.int x2)])
  refine Run.callS X102 (y := (⟨"com/example/shelfwright/shelfwright/catalog/TextsIsUnicodePinLaw", "mk", "(I)C"⟩ : MethodName)) (W := 0) (con_mk l hw X102.old) (wd hw 1 rfl) (wd hw 2 rfl) (wd hw 3 rfl) (wd hw 4 rfl) (by decide) pd__I_C rfl (argsL := [(.int x2)]) (rest := []) rfl (Nat.le_of_ble_eq_true rfl) rfl at_21 (by decide) (by decide) (Nat.le_of_ble_eq_true rfl) (Nat.le_of_ble_eq_true rfl) (nofun) (nofun) ?_
  intro v103 T103 h103 L103 q103 X103 XF103 K103
  obtain ⟨⟨c2, rfl, r2⟩, rfl⟩ := q103
  show Run _ _ _ _ _ _ _ _ _ _ _ _ T103 (mkF m 24 #[.val (.int x0), .val (.int x1), .val (.int x2), .val (.int len), .val (.int n), .val (.int c0), .val (.int c1), .unset, .unset, .unset] [(.int c2)])
  refine Run.via (fun _ => XS.istore X103.at X103.ex rfl (X103.de at_24) rfl (l' := #[.val (.int x0), .val (.int x1), .val (.int x2), .val (.int len), .val (.int n), .val (.int c0), .val (.int c1), .val (.int c2), .unset, .unset]) rfl) ?_
  show Run _ _ _ _ _ _ _ _ _ _ _ _ T103 (mkF m 26 #[.val (.int x0), .val (.int x1), .val (.int x2), .val (.int len), .val (.int n), .val (.int c0), .val (.int c1), .val (.int c2), .unset, .unset] [])
  refine Run.via (fun _ => XS.iload X103.at X103.ex rfl (X103.de at_26) rfl) ?_
  show Run _ _ _ _ _ _ _ _ _ _ _ _ T103 (mkF m 28 #[.val (.int x0), .val (.int x1), .val (.int x2), .val (.int len), .val (.int n), .val (.int c0), .val (.int c1), .val (.int c2), .unset, .unset] [(.int n)])
  have hn4 : n = 0 ∨ n = 1 ∨ n = 2 ∨ n = 3 := by rw [← hsz]; exact rem_4 len
  rcases hn4 with rfl | rfl | rfl | rfl
  ·
    show Run _ _ _ _ _ _ _ _ _ _ _ _ T103 (mkF m 28 #[.val (.int x0), .val (.int x1), .val (.int x2), .val (.int len), .val (.int (0 : Int32)), .val (.int c0), .val (.int c1), .val (.int c2), .unset, .unset] [(.int (0 : Int32))])
    refine Run.newarr X103 (aty := .char) (n := 0) (cap := 0) (wd hw 6 rfl) rfl at_28 rfl (Nat.le_refl _) (by decide) (Nat.le_of_ble_eq_true rfl) (Nat.le_of_ble_eq_true rfl) ?_
    intro T104 h104 x104 g104 X104 K104 z104 A104
    have A104 : Arc .char Z h104 x104 [] := A104
    show Run _ _ _ _ _ _ _ _ _ _ _ _ T104 (mkF m 30 #[.val (.int x0), .val (.int x1), .val (.int x2), .val (.int len), .val (.int (0 : Int32)), .val (.int c0), .val (.int c1), .val (.int c2), .unset, .unset] [(.ref x104)])
    have s104 := K104.1
    refine Run.via (fun _ => XS.astore X104.at X104.ex rfl (X104.de at_30) rfl rfl (l' := #[.val (.int x0), .val (.int x1), .val (.int x2), .val (.int len), .val (.int (0 : Int32)), .val (.int c0), .val (.int c1), .val (.int c2), .val (.ref x104), .unset]) rfl) ?_
    show Run _ _ _ _ _ _ _ _ _ _ _ _ T104 (mkF m 32 #[.val (.int x0), .val (.int x1), .val (.int x2), .val (.int len), .val (.int (0 : Int32)), .val (.int c0), .val (.int c1), .val (.int c2), .val (.ref x104), .unset] [])
    refine Run.via (fun _ => XS.iload X104.at X104.ex rfl (X104.de at_32) rfl) ?_
    show Run _ _ _ _ _ _ _ _ _ _ _ _ T104 (mkF m 34 #[.val (.int x0), .val (.int x1), .val (.int x2), .val (.int len), .val (.int (0 : Int32)), .val (.int c0), .val (.int c1), .val (.int c2), .val (.ref x104), .unset] [(.int (0 : Int32))])
    refine Run.via (fun _ => XS.ifYes X104.at X104.ex rfl (pc0 := 34) (pc' := 43) rfl (X104.de at_34) rfl ((if0 _ _).trans (flt (by decide : ¬ ((0 : Int32) < (0 : Int32)))).2.2.2) (by decide) (by decide)) ?_
    show Run _ _ _ _ _ _ _ _ _ _ _ _ T104 (mkF m 43 #[.val (.int x0), .val (.int x1), .val (.int x2), .val (.int len), .val (.int (0 : Int32)), .val (.int c0), .val (.int c1), .val (.int c2), .val (.ref x104), .unset] [])
    refine Run.via (fun _ => XS.iload X104.at X104.ex rfl (X104.de at_43) rfl) ?_
    show Run _ _ _ _ _ _ _ _ _ _ _ _ T104 (mkF m 45 #[.val (.int x0), .val (.int x1), .val (.int x2), .val (.int len), .val (.int (0 : Int32)), .val (.int c0), .val (.int c1), .val (.int c2), .val (.ref x104), .unset] [(.int (0 : Int32))])
    refine Run.via (fun _ => XS.iconst X104.at X104.ex rfl (X104.de at_45)) ?_
    show Run _ _ _ _ _ _ _ _ _ _ _ _ T104 (mkF m 46 #[.val (.int x0), .val (.int x1), .val (.int x2), .val (.int len), .val (.int (0 : Int32)), .val (.int c0), .val (.int c1), .val (.int c2), .val (.ref x104), .unset] [(.int (1 : Int32)), (.int (0 : Int32))])
    refine Run.via (fun _ => XS.icmpYes X104.at X104.ex rfl (pc0 := 46) (pc' := 55) rfl (X104.de at_46) rfl (flt (by decide : ¬ ((1 : Int32) < (0 : Int32)))).2.2.2 (by decide) (by decide)) ?_
    show Run _ _ _ _ _ _ _ _ _ _ _ _ T104 (mkF m 55 #[.val (.int x0), .val (.int x1), .val (.int x2), .val (.int len), .val (.int (0 : Int32)), .val (.int c0), .val (.int c1), .val (.int c2), .val (.ref x104), .unset] [])
    refine Run.via (fun _ => XS.iload X104.at X104.ex rfl (X104.de at_55) rfl) ?_
    show Run _ _ _ _ _ _ _ _ _ _ _ _ T104 (mkF m 57 #[.val (.int x0), .val (.int x1), .val (.int x2), .val (.int len), .val (.int (0 : Int32)), .val (.int c0), .val (.int c1), .val (.int c2), .val (.ref x104), .unset] [(.int (0 : Int32))])
    refine Run.via (fun _ => XS.iconst X104.at X104.ex rfl (X104.de at_57)) ?_
    show Run _ _ _ _ _ _ _ _ _ _ _ _ T104 (mkF m 58 #[.val (.int x0), .val (.int x1), .val (.int x2), .val (.int len), .val (.int (0 : Int32)), .val (.int c0), .val (.int c1), .val (.int c2), .val (.ref x104), .unset] [(.int (2 : Int32)), (.int (0 : Int32))])
    refine Run.via (fun _ => XS.icmpYes X104.at X104.ex rfl (pc0 := 58) (pc' := 67) rfl (X104.de at_58) rfl (flt (by decide : ¬ ((2 : Int32) < (0 : Int32)))).2.2.2 (by decide) (by decide)) ?_
    show Run _ _ _ _ _ _ _ _ _ _ _ _ T104 (mkF m 67 #[.val (.int x0), .val (.int x1), .val (.int x2), .val (.int len), .val (.int (0 : Int32)), .val (.int c0), .val (.int c1), .val (.int c2), .val (.ref x104), .unset] [])
    refine Run.via (fun _ => XS.iload X104.at X104.ex rfl (X104.de at_67) rfl) ?_
    show Run _ _ _ _ _ _ _ _ _ _ _ _ T104 (mkF m 69 #[.val (.int x0), .val (.int x1), .val (.int x2), .val (.int len), .val (.int (0 : Int32)), .val (.int c0), .val (.int c1), .val (.int c2), .val (.ref x104), .unset] [(.int (0 : Int32))])
    refine Run.via (fun _ => XS.ifNo X104.at X104.ex rfl (X104.de at_69) rfl ((if0 _ _).trans (teq (by decide : ((0 : Int32) = (0 : Int32)))).2)) ?_
    show Run _ _ _ _ _ _ _ _ _ _ _ _ T104 (mkF m 72 #[.val (.int x0), .val (.int x1), .val (.int x2), .val (.int len), .val (.int (0 : Int32)), .val (.int c0), .val (.int c1), .val (.int c2), .val (.ref x104), .unset] [])
    refine Run.via (fun _ => XS.iconst X104.at X104.ex rfl (X104.de at_72)) ?_
    show Run _ _ _ _ _ _ _ _ _ _ _ _ T104 (mkF m 73 #[.val (.int x0), .val (.int x1), .val (.int x2), .val (.int len), .val (.int (0 : Int32)), .val (.int c0), .val (.int c1), .val (.int c2), .val (.ref x104), .unset] [(.int (1 : Int32))])
    refine Run.via (fun _ => XS.istore X104.at X104.ex rfl (X104.de at_73) rfl (l' := #[.val (.int x0), .val (.int x1), .val (.int x2), .val (.int len), .val (.int (0 : Int32)), .val (.int c0), .val (.int c1), .val (.int c2), .val (.ref x104), .val (.int (1 : Int32))]) rfl) ?_
    show Run _ _ _ _ _ _ _ _ _ _ _ _ T104 (mkF m 75 #[.val (.int x0), .val (.int x1), .val (.int x2), .val (.int len), .val (.int (0 : Int32)), .val (.int c0), .val (.int c1), .val (.int c2), .val (.ref x104), .val (.int (1 : Int32))] [])
    refine Run.via (fun _ => XS.goto X104.at X104.ex rfl (pc0 := 75) (pc' := 211) rfl (X104.de at_75) (by decide) (by decide)) ?_
    show Run _ _ _ _ _ _ _ _ _ _ _ _ T104 (mkF m 211 #[.val (.int x0), .val (.int x1), .val (.int x2), .val (.int len), .val (.int (0 : Int32)), .val (.int c0), .val (.int c1), .val (.int c2), .val (.ref x104), .val (.int (1 : Int32))] [])
    have J : ∀ (Tj : State) (Lq : List Loc) (ex : Int32), Sit Z a0 EL p l e room_1 s m #[(.int x0), (.int x1), (.int x2), (.int len)] below meth c "com/example/shelfwright/shelfwright/catalog/TextsIsUnicodePinLaw" code maxLocals ret "law" h0 [] [x104] Tj h104 Lq 1 0 → ex = uniV ([] : List Int32) → Run Z EL false p e below s h0 [] (fun v _ => v = some (.int 1)) room_1.cells room_1.slots Tj (mkF m 211 #[.val (.int x0), .val (.int x1), .val (.int x2), .val (.int len), .val (.int (0 : Int32)), .val (.int c0), .val (.int c1), .val (.int c2), .val (.ref x104), .val (.int ex)] []) := by
      intro Tj Lq ex Xj hex
      subst hex
      show Run _ _ _ _ _ _ _ _ _ _ _ _ Tj (mkF m 211 #[.val (.int x0), .val (.int x1), .val (.int x2), .val (.int len), .val (.int (0 : Int32)), .val (.int c0), .val (.int c1), .val (.int c2), .val (.ref x104), .val (.int (uniV ([] : List Int32)))] [])
      have uj := Xj.kp.1
      refine Run.new Xj (wd hw 14 rfl) (wd hw 15 rfl) (wd hw 16 rfl) at_211 (Nat.le_of_ble_eq_true rfl) (Nat.le_of_ble_eq_true rfl) ?_
      intro T105 h105 x105 g105 X105 K105 z105 E105 D105
      show Run _ _ _ _ _ _ _ _ _ _ _ _ T105 (mkF m 214 #[.val (.int x0), .val (.int x1), .val (.int x2), .val (.int len), .val (.int (0 : Int32)), .val (.int c0), .val (.int c1), .val (.int c2), .val (.ref x104), .val (.int (uniV ([] : List Int32)))] [(.ref x105)])
      have s105 := K105.1
      have A105x := A104.keep K105 nin0
      have G105 : Raw Z h105 x105 := ⟨E105, D105 (Or.inr (wd hw 61 rfl)) (ty := (.array .byte)) (by decide), D105 (Or.inr (wd hw 59 rfl)) (ty := .byte) (by decide)⟩
      refine Run.via (fun _ => XS.dup X105.at X105.ex rfl (X105.de at_214) rfl rfl) ?_
      show Run _ _ _ _ _ _ _ _ _ _ _ _ T105 (mkF m 215 #[.val (.int x0), .val (.int x1), .val (.int x2), .val (.int len), .val (.int (0 : Int32)), .val (.int c0), .val (.int c1), .val (.int c2), .val (.ref x104), .val (.int (uniV ([] : List Int32)))] [(.ref x105), (.ref x105)])
      refine Run.via (fun _ => XS.aload X105.at X105.ex rfl (X105.de at_215) rfl rfl) ?_
      show Run _ _ _ _ _ _ _ _ _ _ _ _ T105 (mkF m 217 #[.val (.int x0), .val (.int x1), .val (.int x2), .val (.int len), .val (.int (0 : Int32)), .val (.int c0), .val (.int c1), .val (.int c2), .val (.ref x104), .val (.int (uniV ([] : List Int32)))] [(.ref x104), (.ref x105), (.ref x105)])
      refine Run.callN X105 (y := (⟨"java/lang/String", "<init>", "([C)V"⟩ : MethodName)) (W := 1) (con_n1e l hw hN hm G105 A105x (by omega) X105.old) rfl (wd hw 17 rfl) (wd hw 18 rfl) (wd hw 16 rfl) (wd hw 19 rfl) (by decide) pd___C_V rfl (argsL := [(.ref x104)]) (rest := [(.ref x105)]) rfl (Nat.le_of_ble_eq_true rfl) rfl at_217 (by decide) (by decide) (Nat.le_of_ble_eq_true rfl) (Nat.le_of_ble_eq_true rfl) (fun y hy => by cases List.mem_singleton.mp hy; exact ⟨Or.inr (by omega), by omega⟩) (fun y hy => by cases List.mem_singleton.mp hy; simp) ?_
      intro v106 T106 h106 L106 q106 X106 XF106 K106
      obtain ⟨rfl, S106⟩ := q106
      show Run _ _ _ _ _ _ _ _ _ _ _ _ T106 (mkF m 220 #[.val (.int x0), .val (.int x1), .val (.int x2), .val (.int len), .val (.int (0 : Int32)), .val (.int c0), .val (.int c1), .val (.int c2), .val (.ref x104), .val (.int (uniV ([] : List Int32)))] [(.ref x105)])
      refine Run.callS X106 (y := (⟨"com/example/shelfwright/shelfwright/catalog/Texts", "isUnicode", "(Ljava/lang/String;)Z"⟩ : MethodName)) (W := 0) (con_iu l hw hS hU (Nat.le_of_ble_eq_true rfl) S106 X106.old) (wd hw 62 rfl) (wd hw 63 rfl) (wd hw 64 rfl) (wd hw 65 rfl) (by decide) pd__Ljava_lang_String__Z rfl (argsL := [(.ref x105)]) (rest := []) rfl (Nat.le_of_ble_eq_true rfl) rfl at_220 (by decide) (by decide) (Nat.le_of_ble_eq_true rfl) (Nat.le_of_ble_eq_true rfl) (nofun) (nofun) ?_
      intro v107 T107 h107 L107 q107 X107 XF107 K107
      obtain rfl := q107
      show Run _ _ _ _ _ _ _ _ _ _ _ _ T107 (mkF m 223 #[.val (.int x0), .val (.int x1), .val (.int x2), .val (.int len), .val (.int (0 : Int32)), .val (.int c0), .val (.int c1), .val (.int c2), .val (.ref x104), .val (.int (uniV ([] : List Int32)))] [(.int (uniV ([] : List Int32)))])
      refine Run.via (fun _ => XS.iload X107.at X107.ex rfl (X107.de at_223) rfl) ?_
      show Run _ _ _ _ _ _ _ _ _ _ _ _ T107 (mkF m 225 #[.val (.int x0), .val (.int x1), .val (.int x2), .val (.int len), .val (.int (0 : Int32)), .val (.int c0), .val (.int c1), .val (.int c2), .val (.ref x104), .val (.int (uniV ([] : List Int32)))] [(.int (uniV ([] : List Int32))), (.int (uniV ([] : List Int32)))])
      refine Run.via (fun _ => XS.icmpNo X107.at X107.ex rfl (X107.de at_225) rfl (teq (rfl : (uniV ([] : List Int32)) = (uniV ([] : List Int32)))).2) ?_
      show Run _ _ _ _ _ _ _ _ _ _ _ _ T107 (mkF m 228 #[.val (.int x0), .val (.int x1), .val (.int x2), .val (.int len), .val (.int (0 : Int32)), .val (.int c0), .val (.int c1), .val (.int c2), .val (.ref x104), .val (.int (uniV ([] : List Int32)))] [])
      refine Run.via (fun _ => XS.iconst X107.at X107.ex rfl (X107.de at_228)) ?_
      show Run _ _ _ _ _ _ _ _ _ _ _ _ T107 (mkF m 229 #[.val (.int x0), .val (.int x1), .val (.int x2), .val (.int len), .val (.int (0 : Int32)), .val (.int c0), .val (.int c1), .val (.int c2), .val (.ref x104), .val (.int (uniV ([] : List Int32)))] [(.int (1 : Int32))])
      refine Run.via (fun _ => XS.goto X107.at X107.ex rfl (pc0 := 229) (pc' := 233) rfl (X107.de at_229) (by decide) (by decide)) ?_
      show Run _ _ _ _ _ _ _ _ _ _ _ _ T107 (mkF m 233 #[.val (.int x0), .val (.int x1), .val (.int x2), .val (.int len), .val (.int (0 : Int32)), .val (.int c0), .val (.int c1), .val (.int c2), .val (.ref x104), .val (.int (uniV ([] : List Int32)))] [(.int (1 : Int32))])
      exact Run.retN X107 (t := .boolean) rfl (by simp) at_233 (Nat.le_of_ble_eq_true rfl) (Nat.le_of_ble_eq_true rfl) (rfl)
    exact J _ _ _ X104 (by rw [uni0])
  ·
    show Run _ _ _ _ _ _ _ _ _ _ _ _ T103 (mkF m 28 #[.val (.int x0), .val (.int x1), .val (.int x2), .val (.int len), .val (.int (1 : Int32)), .val (.int c0), .val (.int c1), .val (.int c2), .unset, .unset] [(.int (1 : Int32))])
    refine Run.newarr X103 (aty := .char) (n := 1) (cap := 1) (wd hw 6 rfl) rfl at_28 rfl (Nat.le_refl _) (by decide) (Nat.le_of_ble_eq_true rfl) (Nat.le_of_ble_eq_true rfl) ?_
    intro T108 h108 x108 g108 X108 K108 z108 A108
    have A108 : Arc .char Z h108 x108 [(0 : Int32)] := A108
    show Run _ _ _ _ _ _ _ _ _ _ _ _ T108 (mkF m 30 #[.val (.int x0), .val (.int x1), .val (.int x2), .val (.int len), .val (.int (1 : Int32)), .val (.int c0), .val (.int c1), .val (.int c2), .unset, .unset] [(.ref x108)])
    have s108 := K108.1
    refine Run.via (fun _ => XS.astore X108.at X108.ex rfl (X108.de at_30) rfl rfl (l' := #[.val (.int x0), .val (.int x1), .val (.int x2), .val (.int len), .val (.int (1 : Int32)), .val (.int c0), .val (.int c1), .val (.int c2), .val (.ref x108), .unset]) rfl) ?_
    show Run _ _ _ _ _ _ _ _ _ _ _ _ T108 (mkF m 32 #[.val (.int x0), .val (.int x1), .val (.int x2), .val (.int len), .val (.int (1 : Int32)), .val (.int c0), .val (.int c1), .val (.int c2), .val (.ref x108), .unset] [])
    refine Run.via (fun _ => XS.iload X108.at X108.ex rfl (X108.de at_32) rfl) ?_
    show Run _ _ _ _ _ _ _ _ _ _ _ _ T108 (mkF m 34 #[.val (.int x0), .val (.int x1), .val (.int x2), .val (.int len), .val (.int (1 : Int32)), .val (.int c0), .val (.int c1), .val (.int c2), .val (.ref x108), .unset] [(.int (1 : Int32))])
    refine Run.via (fun _ => XS.ifNo X108.at X108.ex rfl (X108.de at_34) rfl ((if0 _ _).trans (tlt (by decide : ((0 : Int32) < (1 : Int32)))).2.2.2)) ?_
    show Run _ _ _ _ _ _ _ _ _ _ _ _ T108 (mkF m 37 #[.val (.int x0), .val (.int x1), .val (.int x2), .val (.int len), .val (.int (1 : Int32)), .val (.int c0), .val (.int c1), .val (.int c2), .val (.ref x108), .unset] [])
    refine Run.via (fun _ => XS.aload X108.at X108.ex rfl (X108.de at_37) rfl rfl) ?_
    show Run _ _ _ _ _ _ _ _ _ _ _ _ T108 (mkF m 39 #[.val (.int x0), .val (.int x1), .val (.int x2), .val (.int len), .val (.int (1 : Int32)), .val (.int c0), .val (.int c1), .val (.int c2), .val (.ref x108), .unset] [(.ref x108)])
    refine Run.via (fun _ => XS.iconst X108.at X108.ex rfl (X108.de at_39)) ?_
    show Run _ _ _ _ _ _ _ _ _ _ _ _ T108 (mkF m 40 #[.val (.int x0), .val (.int x1), .val (.int x2), .val (.int len), .val (.int (1 : Int32)), .val (.int c0), .val (.int c1), .val (.int c2), .val (.ref x108), .unset] [(.int (0 : Int32)), (.ref x108)])
    refine Run.via (fun _ => XS.iload X108.at X108.ex rfl (X108.de at_40) rfl) ?_
    show Run _ _ _ _ _ _ _ _ _ _ _ _ T108 (mkF m 42 #[.val (.int x0), .val (.int x1), .val (.int x2), .val (.int len), .val (.int (1 : Int32)), .val (.int c0), .val (.int c1), .val (.int c2), .val (.ref x108), .unset] [(.int c0), (.int (0 : Int32)), (.ref x108)])
    refine Run.castore X108 (i := 0) (v' := c0) A108 rfl (Nat.le_of_ble_eq_true rfl) (nar_char r0) (Or.inr (by omega)) (by omega) at_42 ?_
    intro T109 h109 L109 X109 K109 z109 A109
    have A109 : Arc .char Z h109 x108 [c0] := A109
    show Run _ _ _ _ _ _ _ _ _ _ _ _ T109 (mkF m 43 #[.val (.int x0), .val (.int x1), .val (.int x2), .val (.int len), .val (.int (1 : Int32)), .val (.int c0), .val (.int c1), .val (.int c2), .val (.ref x108), .unset] [])
    refine Run.via (fun _ => XS.iload X109.at X109.ex rfl (X109.de at_43) rfl) ?_
    show Run _ _ _ _ _ _ _ _ _ _ _ _ T109 (mkF m 45 #[.val (.int x0), .val (.int x1), .val (.int x2), .val (.int len), .val (.int (1 : Int32)), .val (.int c0), .val (.int c1), .val (.int c2), .val (.ref x108), .unset] [(.int (1 : Int32))])
    refine Run.via (fun _ => XS.iconst X109.at X109.ex rfl (X109.de at_45)) ?_
    show Run _ _ _ _ _ _ _ _ _ _ _ _ T109 (mkF m 46 #[.val (.int x0), .val (.int x1), .val (.int x2), .val (.int len), .val (.int (1 : Int32)), .val (.int c0), .val (.int c1), .val (.int c2), .val (.ref x108), .unset] [(.int (1 : Int32)), (.int (1 : Int32))])
    refine Run.via (fun _ => XS.icmpYes X109.at X109.ex rfl (pc0 := 46) (pc' := 55) rfl (X109.de at_46) rfl (flt (by decide : ¬ ((1 : Int32) < (1 : Int32)))).2.2.2 (by decide) (by decide)) ?_
    show Run _ _ _ _ _ _ _ _ _ _ _ _ T109 (mkF m 55 #[.val (.int x0), .val (.int x1), .val (.int x2), .val (.int len), .val (.int (1 : Int32)), .val (.int c0), .val (.int c1), .val (.int c2), .val (.ref x108), .unset] [])
    refine Run.via (fun _ => XS.iload X109.at X109.ex rfl (X109.de at_55) rfl) ?_
    show Run _ _ _ _ _ _ _ _ _ _ _ _ T109 (mkF m 57 #[.val (.int x0), .val (.int x1), .val (.int x2), .val (.int len), .val (.int (1 : Int32)), .val (.int c0), .val (.int c1), .val (.int c2), .val (.ref x108), .unset] [(.int (1 : Int32))])
    refine Run.via (fun _ => XS.iconst X109.at X109.ex rfl (X109.de at_57)) ?_
    show Run _ _ _ _ _ _ _ _ _ _ _ _ T109 (mkF m 58 #[.val (.int x0), .val (.int x1), .val (.int x2), .val (.int len), .val (.int (1 : Int32)), .val (.int c0), .val (.int c1), .val (.int c2), .val (.ref x108), .unset] [(.int (2 : Int32)), (.int (1 : Int32))])
    refine Run.via (fun _ => XS.icmpYes X109.at X109.ex rfl (pc0 := 58) (pc' := 67) rfl (X109.de at_58) rfl (flt (by decide : ¬ ((2 : Int32) < (1 : Int32)))).2.2.2 (by decide) (by decide)) ?_
    show Run _ _ _ _ _ _ _ _ _ _ _ _ T109 (mkF m 67 #[.val (.int x0), .val (.int x1), .val (.int x2), .val (.int len), .val (.int (1 : Int32)), .val (.int c0), .val (.int c1), .val (.int c2), .val (.ref x108), .unset] [])
    refine Run.via (fun _ => XS.iload X109.at X109.ex rfl (X109.de at_67) rfl) ?_
    show Run _ _ _ _ _ _ _ _ _ _ _ _ T109 (mkF m 69 #[.val (.int x0), .val (.int x1), .val (.int x2), .val (.int len), .val (.int (1 : Int32)), .val (.int c0), .val (.int c1), .val (.int c2), .val (.ref x108), .unset] [(.int (1 : Int32))])
    refine Run.via (fun _ => XS.ifYes X109.at X109.ex rfl (pc0 := 69) (pc' := 78) rfl (X109.de at_69) rfl ((if0 _ _).trans (feq (by decide : ¬ ((1 : Int32) = (0 : Int32)))).2) (by decide) (by decide)) ?_
    show Run _ _ _ _ _ _ _ _ _ _ _ _ T109 (mkF m 78 #[.val (.int x0), .val (.int x1), .val (.int x2), .val (.int len), .val (.int (1 : Int32)), .val (.int c0), .val (.int c1), .val (.int c2), .val (.ref x108), .unset] [])
    refine Run.via (fun _ => XS.iload X109.at X109.ex rfl (X109.de at_78) rfl) ?_
    show Run _ _ _ _ _ _ _ _ _ _ _ _ T109 (mkF m 80 #[.val (.int x0), .val (.int x1), .val (.int x2), .val (.int len), .val (.int (1 : Int32)), .val (.int c0), .val (.int c1), .val (.int c2), .val (.ref x108), .unset] [(.int (1 : Int32))])
    refine Run.via (fun _ => XS.iconst X109.at X109.ex rfl (X109.de at_80)) ?_
    show Run _ _ _ _ _ _ _ _ _ _ _ _ T109 (mkF m 81 #[.val (.int x0), .val (.int x1), .val (.int x2), .val (.int len), .val (.int (1 : Int32)), .val (.int c0), .val (.int c1), .val (.int c2), .val (.ref x108), .unset] [(.int (1 : Int32)), (.int (1 : Int32))])
    refine Run.via (fun _ => XS.icmpNo X109.at X109.ex rfl (X109.de at_81) rfl (teq (by decide : ((1 : Int32) = (1 : Int32)))).2) ?_
    show Run _ _ _ _ _ _ _ _ _ _ _ _ T109 (mkF m 84 #[.val (.int x0), .val (.int x1), .val (.int x2), .val (.int len), .val (.int (1 : Int32)), .val (.int c0), .val (.int c1), .val (.int c2), .val (.ref x108), .unset] [])
    refine Run.via (fun _ => XS.iload X109.at X109.ex rfl (X109.de at_84) rfl) ?_
    show Run _ _ _ _ _ _ _ _ _ _ _ _ T109 (mkF m 86 #[.val (.int x0), .val (.int x1), .val (.int x2), .val (.int len), .val (.int (1 : Int32)), .val (.int c0), .val (.int c1), .val (.int c2), .val (.ref x108), .unset] [(.int c0)])
    have J : ∀ (Tj : State) (Lq : List Loc) (ex : Int32), Sit Z a0 EL p l e room_1 s m #[(.int x0), (.int x1), (.int x2), (.int len)] below meth c "com/example/shelfwright/shelfwright/catalog/TextsIsUnicodePinLaw" code maxLocals ret "law" h0 [] [x108] Tj h109 Lq 1 1 → ex = uniV ([c0] : List Int32) → Run Z EL false p e below s h0 [] (fun v _ => v = some (.int 1)) room_1.cells room_1.slots Tj (mkF m 211 #[.val (.int x0), .val (.int x1), .val (.int x2), .val (.int len), .val (.int (1 : Int32)), .val (.int c0), .val (.int c1), .val (.int c2), .val (.ref x108), .val (.int ex)] []) := by
      intro Tj Lq ex Xj hex
      subst hex
      show Run _ _ _ _ _ _ _ _ _ _ _ _ Tj (mkF m 211 #[.val (.int x0), .val (.int x1), .val (.int x2), .val (.int len), .val (.int (1 : Int32)), .val (.int c0), .val (.int c1), .val (.int c2), .val (.ref x108), .val (.int (uniV ([c0] : List Int32)))] [])
      have uj := Xj.kp.1
      refine Run.new Xj (wd hw 14 rfl) (wd hw 15 rfl) (wd hw 16 rfl) at_211 (Nat.le_of_ble_eq_true rfl) (Nat.le_of_ble_eq_true rfl) ?_
      intro T110 h110 x110 g110 X110 K110 z110 E110 D110
      show Run _ _ _ _ _ _ _ _ _ _ _ _ T110 (mkF m 214 #[.val (.int x0), .val (.int x1), .val (.int x2), .val (.int len), .val (.int (1 : Int32)), .val (.int c0), .val (.int c1), .val (.int c2), .val (.ref x108), .val (.int (uniV ([c0] : List Int32)))] [(.ref x110)])
      have s110 := K110.1
      have A110x := A109.keep K110 nin0
      have G110 : Raw Z h110 x110 := ⟨E110, D110 (Or.inr (wd hw 61 rfl)) (ty := (.array .byte)) (by decide), D110 (Or.inr (wd hw 59 rfl)) (ty := .byte) (by decide)⟩
      refine Run.via (fun _ => XS.dup X110.at X110.ex rfl (X110.de at_214) rfl rfl) ?_
      show Run _ _ _ _ _ _ _ _ _ _ _ _ T110 (mkF m 215 #[.val (.int x0), .val (.int x1), .val (.int x2), .val (.int len), .val (.int (1 : Int32)), .val (.int c0), .val (.int c1), .val (.int c2), .val (.ref x108), .val (.int (uniV ([c0] : List Int32)))] [(.ref x110), (.ref x110)])
      refine Run.via (fun _ => XS.aload X110.at X110.ex rfl (X110.de at_215) rfl rfl) ?_
      show Run _ _ _ _ _ _ _ _ _ _ _ _ T110 (mkF m 217 #[.val (.int x0), .val (.int x1), .val (.int x2), .val (.int len), .val (.int (1 : Int32)), .val (.int c0), .val (.int c1), .val (.int c2), .val (.ref x108), .val (.int (uniV ([c0] : List Int32)))] [(.ref x108), (.ref x110), (.ref x110)])
      refine Run.initAny hw hS hU X110 (cs := [c0]) (W := 1) G110 A110x (lsS r0 (ls0)) (Nat.le_of_ble_eq_true rfl) (Nat.le_of_ble_eq_true rfl) (wd hw 17 rfl) at_217 rfl (Or.inr (by omega)) (by omega) (by simp) (Nat.le_of_ble_eq_true rfl) (by decide) (by decide) (Nat.le_of_ble_eq_true rfl) (Nat.le_of_ble_eq_true rfl) ?_
      intro T111 h111 L111 X111 K111 S111
      show Run _ _ _ _ _ _ _ _ _ _ _ _ T111 (mkF m 220 #[.val (.int x0), .val (.int x1), .val (.int x2), .val (.int len), .val (.int (1 : Int32)), .val (.int c0), .val (.int c1), .val (.int c2), .val (.ref x108), .val (.int (uniV ([c0] : List Int32)))] [(.ref x110)])
      refine Run.callS X111 (y := (⟨"com/example/shelfwright/shelfwright/catalog/Texts", "isUnicode", "(Ljava/lang/String;)Z"⟩ : MethodName)) (W := 0) (con_iu l hw hS hU (Nat.le_of_ble_eq_true rfl) S111 X111.old) (wd hw 62 rfl) (wd hw 63 rfl) (wd hw 64 rfl) (wd hw 65 rfl) (by decide) pd__Ljava_lang_String__Z rfl (argsL := [(.ref x110)]) (rest := []) rfl (Nat.le_of_ble_eq_true rfl) rfl at_220 (by decide) (by decide) (Nat.le_of_ble_eq_true rfl) (Nat.le_of_ble_eq_true rfl) (nofun) (nofun) ?_
      intro v112 T112 h112 L112 q112 X112 XF112 K112
      obtain rfl := q112
      show Run _ _ _ _ _ _ _ _ _ _ _ _ T112 (mkF m 223 #[.val (.int x0), .val (.int x1), .val (.int x2), .val (.int len), .val (.int (1 : Int32)), .val (.int c0), .val (.int c1), .val (.int c2), .val (.ref x108), .val (.int (uniV ([c0] : List Int32)))] [(.int (uniV ([c0] : List Int32)))])
      refine Run.via (fun _ => XS.iload X112.at X112.ex rfl (X112.de at_223) rfl) ?_
      show Run _ _ _ _ _ _ _ _ _ _ _ _ T112 (mkF m 225 #[.val (.int x0), .val (.int x1), .val (.int x2), .val (.int len), .val (.int (1 : Int32)), .val (.int c0), .val (.int c1), .val (.int c2), .val (.ref x108), .val (.int (uniV ([c0] : List Int32)))] [(.int (uniV ([c0] : List Int32))), (.int (uniV ([c0] : List Int32)))])
      refine Run.via (fun _ => XS.icmpNo X112.at X112.ex rfl (X112.de at_225) rfl (teq (rfl : (uniV ([c0] : List Int32)) = (uniV ([c0] : List Int32)))).2) ?_
      show Run _ _ _ _ _ _ _ _ _ _ _ _ T112 (mkF m 228 #[.val (.int x0), .val (.int x1), .val (.int x2), .val (.int len), .val (.int (1 : Int32)), .val (.int c0), .val (.int c1), .val (.int c2), .val (.ref x108), .val (.int (uniV ([c0] : List Int32)))] [])
      refine Run.via (fun _ => XS.iconst X112.at X112.ex rfl (X112.de at_228)) ?_
      show Run _ _ _ _ _ _ _ _ _ _ _ _ T112 (mkF m 229 #[.val (.int x0), .val (.int x1), .val (.int x2), .val (.int len), .val (.int (1 : Int32)), .val (.int c0), .val (.int c1), .val (.int c2), .val (.ref x108), .val (.int (uniV ([c0] : List Int32)))] [(.int (1 : Int32))])
      refine Run.via (fun _ => XS.goto X112.at X112.ex rfl (pc0 := 229) (pc' := 233) rfl (X112.de at_229) (by decide) (by decide)) ?_
      show Run _ _ _ _ _ _ _ _ _ _ _ _ T112 (mkF m 233 #[.val (.int x0), .val (.int x1), .val (.int x2), .val (.int len), .val (.int (1 : Int32)), .val (.int c0), .val (.int c1), .val (.int c2), .val (.ref x108), .val (.int (uniV ([c0] : List Int32)))] [(.int (1 : Int32))])
      exact Run.retN X112 (t := .boolean) rfl (by simp) at_233 (Nat.le_of_ble_eq_true rfl) (Nat.le_of_ble_eq_true rfl) (rfl)
    refine Run.callS X109 (y := (⟨"com/example/shelfwright/shelfwright/catalog/TextsIsUnicodePinLaw", "sur", "(C)Z"⟩ : MethodName)) (W := 0) (con_su l hw X109.old) (wd hw 7 rfl) (wd hw 8 rfl) (wd hw 3 rfl) (wd hw 9 rfl) (by decide) pd__C_Z rfl (argsL := [(.int c0)]) (rest := []) rfl (Nat.le_of_ble_eq_true rfl) rfl at_86 (by decide) (by decide) (Nat.le_of_ble_eq_true rfl) (Nat.le_of_ble_eq_true rfl) (nofun) (nofun) ?_
    intro v113 T113 h113 L113 q113 X113 XF113 K113
    obtain ⟨rfl, rfl⟩ := q113
    show Run _ _ _ _ _ _ _ _ _ _ _ _ T113 (mkF m 89 #[.val (.int x0), .val (.int x1), .val (.int x2), .val (.int len), .val (.int (1 : Int32)), .val (.int c0), .val (.int c1), .val (.int c2), .val (.ref x108), .unset] [(.int (surV c0))])
    by_cases q0 : (surV c0) = (0 : Int32)
    ·
      refine Run.via (fun _ => XS.ifNo X113.at X113.ex rfl (X113.de at_89) rfl ((if0 _ _).trans (teq q0).2)) ?_
      show Run _ _ _ _ _ _ _ _ _ _ _ _ T113 (mkF m 92 #[.val (.int x0), .val (.int x1), .val (.int x2), .val (.int len), .val (.int (1 : Int32)), .val (.int c0), .val (.int c1), .val (.int c2), .val (.ref x108), .unset] [])
      refine Run.via (fun _ => XS.iconst X113.at X113.ex rfl (X113.de at_92)) ?_
      show Run _ _ _ _ _ _ _ _ _ _ _ _ T113 (mkF m 93 #[.val (.int x0), .val (.int x1), .val (.int x2), .val (.int len), .val (.int (1 : Int32)), .val (.int c0), .val (.int c1), .val (.int c2), .val (.ref x108), .unset] [(.int (1 : Int32))])
      refine Run.via (fun _ => XS.goto X113.at X113.ex rfl (pc0 := 93) (pc' := 97) rfl (X113.de at_93) (by decide) (by decide)) ?_
      show Run _ _ _ _ _ _ _ _ _ _ _ _ T113 (mkF m 97 #[.val (.int x0), .val (.int x1), .val (.int x2), .val (.int len), .val (.int (1 : Int32)), .val (.int c0), .val (.int c1), .val (.int c2), .val (.ref x108), .unset] [(.int (1 : Int32))])
      refine Run.via (fun _ => XS.istore X113.at X113.ex rfl (X113.de at_97) rfl (l' := #[.val (.int x0), .val (.int x1), .val (.int x2), .val (.int len), .val (.int (1 : Int32)), .val (.int c0), .val (.int c1), .val (.int c2), .val (.ref x108), .val (.int (1 : Int32))]) rfl) ?_
      show Run _ _ _ _ _ _ _ _ _ _ _ _ T113 (mkF m 99 #[.val (.int x0), .val (.int x1), .val (.int x2), .val (.int len), .val (.int (1 : Int32)), .val (.int c0), .val (.int c1), .val (.int c2), .val (.ref x108), .val (.int (1 : Int32))] [])
      refine Run.via (fun _ => XS.goto X113.at X113.ex rfl (pc0 := 99) (pc' := 211) rfl (X113.de at_99) (by decide) (by decide)) ?_
      show Run _ _ _ _ _ _ _ _ _ _ _ _ T113 (mkF m 211 #[.val (.int x0), .val (.int x1), .val (.int x2), .val (.int len), .val (.int (1 : Int32)), .val (.int c0), .val (.int c1), .val (.int c2), .val (.ref x108), .val (.int (1 : Int32))] [])
      exact J _ _ _ X113 (by rw [uni1]; simp [q0])
    ·
      refine Run.via (fun _ => XS.ifYes X113.at X113.ex rfl (pc0 := 89) (pc' := 96) rfl (X113.de at_89) rfl ((if0 _ _).trans (feq q0).2) (by decide) (by decide)) ?_
      show Run _ _ _ _ _ _ _ _ _ _ _ _ T113 (mkF m 96 #[.val (.int x0), .val (.int x1), .val (.int x2), .val (.int len), .val (.int (1 : Int32)), .val (.int c0), .val (.int c1), .val (.int c2), .val (.ref x108), .unset] [])
      refine Run.via (fun _ => XS.iconst X113.at X113.ex rfl (X113.de at_96)) ?_
      show Run _ _ _ _ _ _ _ _ _ _ _ _ T113 (mkF m 97 #[.val (.int x0), .val (.int x1), .val (.int x2), .val (.int len), .val (.int (1 : Int32)), .val (.int c0), .val (.int c1), .val (.int c2), .val (.ref x108), .unset] [(.int (0 : Int32))])
      refine Run.via (fun _ => XS.istore X113.at X113.ex rfl (X113.de at_97) rfl (l' := #[.val (.int x0), .val (.int x1), .val (.int x2), .val (.int len), .val (.int (1 : Int32)), .val (.int c0), .val (.int c1), .val (.int c2), .val (.ref x108), .val (.int (0 : Int32))]) rfl) ?_
      show Run _ _ _ _ _ _ _ _ _ _ _ _ T113 (mkF m 99 #[.val (.int x0), .val (.int x1), .val (.int x2), .val (.int len), .val (.int (1 : Int32)), .val (.int c0), .val (.int c1), .val (.int c2), .val (.ref x108), .val (.int (0 : Int32))] [])
      refine Run.via (fun _ => XS.goto X113.at X113.ex rfl (pc0 := 99) (pc' := 211) rfl (X113.de at_99) (by decide) (by decide)) ?_
      show Run _ _ _ _ _ _ _ _ _ _ _ _ T113 (mkF m 211 #[.val (.int x0), .val (.int x1), .val (.int x2), .val (.int len), .val (.int (1 : Int32)), .val (.int c0), .val (.int c1), .val (.int c2), .val (.ref x108), .val (.int (0 : Int32))] [])
      exact J _ _ _ X113 (by rw [uni1]; simp [q0])
  ·
    show Run _ _ _ _ _ _ _ _ _ _ _ _ T103 (mkF m 28 #[.val (.int x0), .val (.int x1), .val (.int x2), .val (.int len), .val (.int (2 : Int32)), .val (.int c0), .val (.int c1), .val (.int c2), .unset, .unset] [(.int (2 : Int32))])
    refine Run.newarr X103 (aty := .char) (n := 2) (cap := 2) (wd hw 6 rfl) rfl at_28 rfl (Nat.le_refl _) (by decide) (Nat.le_of_ble_eq_true rfl) (Nat.le_of_ble_eq_true rfl) ?_
    intro T114 h114 x114 g114 X114 K114 z114 A114
    have A114 : Arc .char Z h114 x114 [(0 : Int32), (0 : Int32)] := A114
    show Run _ _ _ _ _ _ _ _ _ _ _ _ T114 (mkF m 30 #[.val (.int x0), .val (.int x1), .val (.int x2), .val (.int len), .val (.int (2 : Int32)), .val (.int c0), .val (.int c1), .val (.int c2), .unset, .unset] [(.ref x114)])
    have s114 := K114.1
    refine Run.via (fun _ => XS.astore X114.at X114.ex rfl (X114.de at_30) rfl rfl (l' := #[.val (.int x0), .val (.int x1), .val (.int x2), .val (.int len), .val (.int (2 : Int32)), .val (.int c0), .val (.int c1), .val (.int c2), .val (.ref x114), .unset]) rfl) ?_
    show Run _ _ _ _ _ _ _ _ _ _ _ _ T114 (mkF m 32 #[.val (.int x0), .val (.int x1), .val (.int x2), .val (.int len), .val (.int (2 : Int32)), .val (.int c0), .val (.int c1), .val (.int c2), .val (.ref x114), .unset] [])
    refine Run.via (fun _ => XS.iload X114.at X114.ex rfl (X114.de at_32) rfl) ?_
    show Run _ _ _ _ _ _ _ _ _ _ _ _ T114 (mkF m 34 #[.val (.int x0), .val (.int x1), .val (.int x2), .val (.int len), .val (.int (2 : Int32)), .val (.int c0), .val (.int c1), .val (.int c2), .val (.ref x114), .unset] [(.int (2 : Int32))])
    refine Run.via (fun _ => XS.ifNo X114.at X114.ex rfl (X114.de at_34) rfl ((if0 _ _).trans (tlt (by decide : ((0 : Int32) < (2 : Int32)))).2.2.2)) ?_
    show Run _ _ _ _ _ _ _ _ _ _ _ _ T114 (mkF m 37 #[.val (.int x0), .val (.int x1), .val (.int x2), .val (.int len), .val (.int (2 : Int32)), .val (.int c0), .val (.int c1), .val (.int c2), .val (.ref x114), .unset] [])
    refine Run.via (fun _ => XS.aload X114.at X114.ex rfl (X114.de at_37) rfl rfl) ?_
    show Run _ _ _ _ _ _ _ _ _ _ _ _ T114 (mkF m 39 #[.val (.int x0), .val (.int x1), .val (.int x2), .val (.int len), .val (.int (2 : Int32)), .val (.int c0), .val (.int c1), .val (.int c2), .val (.ref x114), .unset] [(.ref x114)])
    refine Run.via (fun _ => XS.iconst X114.at X114.ex rfl (X114.de at_39)) ?_
    show Run _ _ _ _ _ _ _ _ _ _ _ _ T114 (mkF m 40 #[.val (.int x0), .val (.int x1), .val (.int x2), .val (.int len), .val (.int (2 : Int32)), .val (.int c0), .val (.int c1), .val (.int c2), .val (.ref x114), .unset] [(.int (0 : Int32)), (.ref x114)])
    refine Run.via (fun _ => XS.iload X114.at X114.ex rfl (X114.de at_40) rfl) ?_
    show Run _ _ _ _ _ _ _ _ _ _ _ _ T114 (mkF m 42 #[.val (.int x0), .val (.int x1), .val (.int x2), .val (.int len), .val (.int (2 : Int32)), .val (.int c0), .val (.int c1), .val (.int c2), .val (.ref x114), .unset] [(.int c0), (.int (0 : Int32)), (.ref x114)])
    refine Run.castore X114 (i := 0) (v' := c0) A114 rfl (Nat.le_of_ble_eq_true rfl) (nar_char r0) (Or.inr (by omega)) (by omega) at_42 ?_
    intro T115 h115 L115 X115 K115 z115 A115
    have A115 : Arc .char Z h115 x114 [c0, (0 : Int32)] := A115
    show Run _ _ _ _ _ _ _ _ _ _ _ _ T115 (mkF m 43 #[.val (.int x0), .val (.int x1), .val (.int x2), .val (.int len), .val (.int (2 : Int32)), .val (.int c0), .val (.int c1), .val (.int c2), .val (.ref x114), .unset] [])
    refine Run.via (fun _ => XS.iload X115.at X115.ex rfl (X115.de at_43) rfl) ?_
    show Run _ _ _ _ _ _ _ _ _ _ _ _ T115 (mkF m 45 #[.val (.int x0), .val (.int x1), .val (.int x2), .val (.int len), .val (.int (2 : Int32)), .val (.int c0), .val (.int c1), .val (.int c2), .val (.ref x114), .unset] [(.int (2 : Int32))])
    refine Run.via (fun _ => XS.iconst X115.at X115.ex rfl (X115.de at_45)) ?_
    show Run _ _ _ _ _ _ _ _ _ _ _ _ T115 (mkF m 46 #[.val (.int x0), .val (.int x1), .val (.int x2), .val (.int len), .val (.int (2 : Int32)), .val (.int c0), .val (.int c1), .val (.int c2), .val (.ref x114), .unset] [(.int (1 : Int32)), (.int (2 : Int32))])
    refine Run.via (fun _ => XS.icmpNo X115.at X115.ex rfl (X115.de at_46) rfl (tlt (by decide : ((1 : Int32) < (2 : Int32)))).2.2.2) ?_
    show Run _ _ _ _ _ _ _ _ _ _ _ _ T115 (mkF m 49 #[.val (.int x0), .val (.int x1), .val (.int x2), .val (.int len), .val (.int (2 : Int32)), .val (.int c0), .val (.int c1), .val (.int c2), .val (.ref x114), .unset] [])
    refine Run.via (fun _ => XS.aload X115.at X115.ex rfl (X115.de at_49) rfl rfl) ?_
    show Run _ _ _ _ _ _ _ _ _ _ _ _ T115 (mkF m 51 #[.val (.int x0), .val (.int x1), .val (.int x2), .val (.int len), .val (.int (2 : Int32)), .val (.int c0), .val (.int c1), .val (.int c2), .val (.ref x114), .unset] [(.ref x114)])
    refine Run.via (fun _ => XS.iconst X115.at X115.ex rfl (X115.de at_51)) ?_
    show Run _ _ _ _ _ _ _ _ _ _ _ _ T115 (mkF m 52 #[.val (.int x0), .val (.int x1), .val (.int x2), .val (.int len), .val (.int (2 : Int32)), .val (.int c0), .val (.int c1), .val (.int c2), .val (.ref x114), .unset] [(.int (1 : Int32)), (.ref x114)])
    refine Run.via (fun _ => XS.iload X115.at X115.ex rfl (X115.de at_52) rfl) ?_
    show Run _ _ _ _ _ _ _ _ _ _ _ _ T115 (mkF m 54 #[.val (.int x0), .val (.int x1), .val (.int x2), .val (.int len), .val (.int (2 : Int32)), .val (.int c0), .val (.int c1), .val (.int c2), .val (.ref x114), .unset] [(.int c1), (.int (1 : Int32)), (.ref x114)])
    refine Run.castore X115 (i := 1) (v' := c1) A115 rfl (Nat.le_of_ble_eq_true rfl) (nar_char r1) (Or.inr (by omega)) (by omega) at_54 ?_
    intro T116 h116 L116 X116 K116 z116 A116
    have A116 : Arc .char Z h116 x114 [c0, c1] := A116
    show Run _ _ _ _ _ _ _ _ _ _ _ _ T116 (mkF m 55 #[.val (.int x0), .val (.int x1), .val (.int x2), .val (.int len), .val (.int (2 : Int32)), .val (.int c0), .val (.int c1), .val (.int c2), .val (.ref x114), .unset] [])
    refine Run.via (fun _ => XS.iload X116.at X116.ex rfl (X116.de at_55) rfl) ?_
    show Run _ _ _ _ _ _ _ _ _ _ _ _ T116 (mkF m 57 #[.val (.int x0), .val (.int x1), .val (.int x2), .val (.int len), .val (.int (2 : Int32)), .val (.int c0), .val (.int c1), .val (.int c2), .val (.ref x114), .unset] [(.int (2 : Int32))])
    refine Run.via (fun _ => XS.iconst X116.at X116.ex rfl (X116.de at_57)) ?_
    show Run _ _ _ _ _ _ _ _ _ _ _ _ T116 (mkF m 58 #[.val (.int x0), .val (.int x1), .val (.int x2), .val (.int len), .val (.int (2 : Int32)), .val (.int c0), .val (.int c1), .val (.int c2), .val (.ref x114), .unset] [(.int (2 : Int32)), (.int (2 : Int32))])
    refine Run.via (fun _ => XS.icmpYes X116.at X116.ex rfl (pc0 := 58) (pc' := 67) rfl (X116.de at_58) rfl (flt (by decide : ¬ ((2 : Int32) < (2 : Int32)))).2.2.2 (by decide) (by decide)) ?_
    show Run _ _ _ _ _ _ _ _ _ _ _ _ T116 (mkF m 67 #[.val (.int x0), .val (.int x1), .val (.int x2), .val (.int len), .val (.int (2 : Int32)), .val (.int c0), .val (.int c1), .val (.int c2), .val (.ref x114), .unset] [])
    refine Run.via (fun _ => XS.iload X116.at X116.ex rfl (X116.de at_67) rfl) ?_
    show Run _ _ _ _ _ _ _ _ _ _ _ _ T116 (mkF m 69 #[.val (.int x0), .val (.int x1), .val (.int x2), .val (.int len), .val (.int (2 : Int32)), .val (.int c0), .val (.int c1), .val (.int c2), .val (.ref x114), .unset] [(.int (2 : Int32))])
    refine Run.via (fun _ => XS.ifYes X116.at X116.ex rfl (pc0 := 69) (pc' := 78) rfl (X116.de at_69) rfl ((if0 _ _).trans (feq (by decide : ¬ ((2 : Int32) = (0 : Int32)))).2) (by decide) (by decide)) ?_
    show Run _ _ _ _ _ _ _ _ _ _ _ _ T116 (mkF m 78 #[.val (.int x0), .val (.int x1), .val (.int x2), .val (.int len), .val (.int (2 : Int32)), .val (.int c0), .val (.int c1), .val (.int c2), .val (.ref x114), .unset] [])
    refine Run.via (fun _ => XS.iload X116.at X116.ex rfl (X116.de at_78) rfl) ?_
    show Run _ _ _ _ _ _ _ _ _ _ _ _ T116 (mkF m 80 #[.val (.int x0), .val (.int x1), .val (.int x2), .val (.int len), .val (.int (2 : Int32)), .val (.int c0), .val (.int c1), .val (.int c2), .val (.ref x114), .unset] [(.int (2 : Int32))])
    refine Run.via (fun _ => XS.iconst X116.at X116.ex rfl (X116.de at_80)) ?_
    show Run _ _ _ _ _ _ _ _ _ _ _ _ T116 (mkF m 81 #[.val (.int x0), .val (.int x1), .val (.int x2), .val (.int len), .val (.int (2 : Int32)), .val (.int c0), .val (.int c1), .val (.int c2), .val (.ref x114), .unset] [(.int (1 : Int32)), (.int (2 : Int32))])
    refine Run.via (fun _ => XS.icmpYes X116.at X116.ex rfl (pc0 := 81) (pc' := 102) rfl (X116.de at_81) rfl (feq (by decide : ¬ ((2 : Int32) = (1 : Int32)))).2 (by decide) (by decide)) ?_
    show Run _ _ _ _ _ _ _ _ _ _ _ _ T116 (mkF m 102 #[.val (.int x0), .val (.int x1), .val (.int x2), .val (.int len), .val (.int (2 : Int32)), .val (.int c0), .val (.int c1), .val (.int c2), .val (.ref x114), .unset] [])
    refine Run.via (fun _ => XS.iload X116.at X116.ex rfl (X116.de at_102) rfl) ?_
    show Run _ _ _ _ _ _ _ _ _ _ _ _ T116 (mkF m 104 #[.val (.int x0), .val (.int x1), .val (.int x2), .val (.int len), .val (.int (2 : Int32)), .val (.int c0), .val (.int c1), .val (.int c2), .val (.ref x114), .unset] [(.int (2 : Int32))])
    refine Run.via (fun _ => XS.iconst X116.at X116.ex rfl (X116.de at_104)) ?_
    show Run _ _ _ _ _ _ _ _ _ _ _ _ T116 (mkF m 105 #[.val (.int x0), .val (.int x1), .val (.int x2), .val (.int len), .val (.int (2 : Int32)), .val (.int c0), .val (.int c1), .val (.int c2), .val (.ref x114), .unset] [(.int (2 : Int32)), (.int (2 : Int32))])
    refine Run.via (fun _ => XS.icmpNo X116.at X116.ex rfl (X116.de at_105) rfl (teq (by decide : ((2 : Int32) = (2 : Int32)))).2) ?_
    show Run _ _ _ _ _ _ _ _ _ _ _ _ T116 (mkF m 108 #[.val (.int x0), .val (.int x1), .val (.int x2), .val (.int len), .val (.int (2 : Int32)), .val (.int c0), .val (.int c1), .val (.int c2), .val (.ref x114), .unset] [])
    refine Run.via (fun _ => XS.iload X116.at X116.ex rfl (X116.de at_108) rfl) ?_
    show Run _ _ _ _ _ _ _ _ _ _ _ _ T116 (mkF m 110 #[.val (.int x0), .val (.int x1), .val (.int x2), .val (.int len), .val (.int (2 : Int32)), .val (.int c0), .val (.int c1), .val (.int c2), .val (.ref x114), .unset] [(.int c0)])
    refine Run.via (fun _ => XS.iload X116.at X116.ex rfl (X116.de at_110) rfl) ?_
    show Run _ _ _ _ _ _ _ _ _ _ _ _ T116 (mkF m 112 #[.val (.int x0), .val (.int x1), .val (.int x2), .val (.int len), .val (.int (2 : Int32)), .val (.int c0), .val (.int c1), .val (.int c2), .val (.ref x114), .unset] [(.int c1), (.int c0)])
    have J : ∀ (Tj : State) (Lq : List Loc) (ex : Int32), Sit Z a0 EL p l e room_1 s m #[(.int x0), (.int x1), (.int x2), (.int len)] below meth c "com/example/shelfwright/shelfwright/catalog/TextsIsUnicodePinLaw" code maxLocals ret "law" h0 [] [x114] Tj h116 Lq 1 2 → ex = uniV ([c0, c1] : List Int32) → Run Z EL false p e below s h0 [] (fun v _ => v = some (.int 1)) room_1.cells room_1.slots Tj (mkF m 211 #[.val (.int x0), .val (.int x1), .val (.int x2), .val (.int len), .val (.int (2 : Int32)), .val (.int c0), .val (.int c1), .val (.int c2), .val (.ref x114), .val (.int ex)] []) := by
      intro Tj Lq ex Xj hex
      subst hex
      show Run _ _ _ _ _ _ _ _ _ _ _ _ Tj (mkF m 211 #[.val (.int x0), .val (.int x1), .val (.int x2), .val (.int len), .val (.int (2 : Int32)), .val (.int c0), .val (.int c1), .val (.int c2), .val (.ref x114), .val (.int (uniV ([c0, c1] : List Int32)))] [])
      have uj := Xj.kp.1
      refine Run.new Xj (wd hw 14 rfl) (wd hw 15 rfl) (wd hw 16 rfl) at_211 (Nat.le_of_ble_eq_true rfl) (Nat.le_of_ble_eq_true rfl) ?_
      intro T117 h117 x117 g117 X117 K117 z117 E117 D117
      show Run _ _ _ _ _ _ _ _ _ _ _ _ T117 (mkF m 214 #[.val (.int x0), .val (.int x1), .val (.int x2), .val (.int len), .val (.int (2 : Int32)), .val (.int c0), .val (.int c1), .val (.int c2), .val (.ref x114), .val (.int (uniV ([c0, c1] : List Int32)))] [(.ref x117)])
      have s117 := K117.1
      have A117x := A116.keep K117 nin0
      have G117 : Raw Z h117 x117 := ⟨E117, D117 (Or.inr (wd hw 61 rfl)) (ty := (.array .byte)) (by decide), D117 (Or.inr (wd hw 59 rfl)) (ty := .byte) (by decide)⟩
      refine Run.via (fun _ => XS.dup X117.at X117.ex rfl (X117.de at_214) rfl rfl) ?_
      show Run _ _ _ _ _ _ _ _ _ _ _ _ T117 (mkF m 215 #[.val (.int x0), .val (.int x1), .val (.int x2), .val (.int len), .val (.int (2 : Int32)), .val (.int c0), .val (.int c1), .val (.int c2), .val (.ref x114), .val (.int (uniV ([c0, c1] : List Int32)))] [(.ref x117), (.ref x117)])
      refine Run.via (fun _ => XS.aload X117.at X117.ex rfl (X117.de at_215) rfl rfl) ?_
      show Run _ _ _ _ _ _ _ _ _ _ _ _ T117 (mkF m 217 #[.val (.int x0), .val (.int x1), .val (.int x2), .val (.int len), .val (.int (2 : Int32)), .val (.int c0), .val (.int c1), .val (.int c2), .val (.ref x114), .val (.int (uniV ([c0, c1] : List Int32)))] [(.ref x114), (.ref x117), (.ref x117)])
      refine Run.initAny hw hS hU X117 (cs := [c0, c1]) (W := 1) G117 A117x (lsS r0 (lsS r1 (ls0))) (Nat.le_of_ble_eq_true rfl) (Nat.le_of_ble_eq_true rfl) (wd hw 17 rfl) at_217 rfl (Or.inr (by omega)) (by omega) (by simp) (Nat.le_of_ble_eq_true rfl) (by decide) (by decide) (Nat.le_of_ble_eq_true rfl) (Nat.le_of_ble_eq_true rfl) ?_
      intro T118 h118 L118 X118 K118 S118
      show Run _ _ _ _ _ _ _ _ _ _ _ _ T118 (mkF m 220 #[.val (.int x0), .val (.int x1), .val (.int x2), .val (.int len), .val (.int (2 : Int32)), .val (.int c0), .val (.int c1), .val (.int c2), .val (.ref x114), .val (.int (uniV ([c0, c1] : List Int32)))] [(.ref x117)])
      refine Run.callS X118 (y := (⟨"com/example/shelfwright/shelfwright/catalog/Texts", "isUnicode", "(Ljava/lang/String;)Z"⟩ : MethodName)) (W := 0) (con_iu l hw hS hU (Nat.le_of_ble_eq_true rfl) S118 X118.old) (wd hw 62 rfl) (wd hw 63 rfl) (wd hw 64 rfl) (wd hw 65 rfl) (by decide) pd__Ljava_lang_String__Z rfl (argsL := [(.ref x117)]) (rest := []) rfl (Nat.le_of_ble_eq_true rfl) rfl at_220 (by decide) (by decide) (Nat.le_of_ble_eq_true rfl) (Nat.le_of_ble_eq_true rfl) (nofun) (nofun) ?_
      intro v119 T119 h119 L119 q119 X119 XF119 K119
      obtain rfl := q119
      show Run _ _ _ _ _ _ _ _ _ _ _ _ T119 (mkF m 223 #[.val (.int x0), .val (.int x1), .val (.int x2), .val (.int len), .val (.int (2 : Int32)), .val (.int c0), .val (.int c1), .val (.int c2), .val (.ref x114), .val (.int (uniV ([c0, c1] : List Int32)))] [(.int (uniV ([c0, c1] : List Int32)))])
      refine Run.via (fun _ => XS.iload X119.at X119.ex rfl (X119.de at_223) rfl) ?_
      show Run _ _ _ _ _ _ _ _ _ _ _ _ T119 (mkF m 225 #[.val (.int x0), .val (.int x1), .val (.int x2), .val (.int len), .val (.int (2 : Int32)), .val (.int c0), .val (.int c1), .val (.int c2), .val (.ref x114), .val (.int (uniV ([c0, c1] : List Int32)))] [(.int (uniV ([c0, c1] : List Int32))), (.int (uniV ([c0, c1] : List Int32)))])
      refine Run.via (fun _ => XS.icmpNo X119.at X119.ex rfl (X119.de at_225) rfl (teq (rfl : (uniV ([c0, c1] : List Int32)) = (uniV ([c0, c1] : List Int32)))).2) ?_
      show Run _ _ _ _ _ _ _ _ _ _ _ _ T119 (mkF m 228 #[.val (.int x0), .val (.int x1), .val (.int x2), .val (.int len), .val (.int (2 : Int32)), .val (.int c0), .val (.int c1), .val (.int c2), .val (.ref x114), .val (.int (uniV ([c0, c1] : List Int32)))] [])
      refine Run.via (fun _ => XS.iconst X119.at X119.ex rfl (X119.de at_228)) ?_
      show Run _ _ _ _ _ _ _ _ _ _ _ _ T119 (mkF m 229 #[.val (.int x0), .val (.int x1), .val (.int x2), .val (.int len), .val (.int (2 : Int32)), .val (.int c0), .val (.int c1), .val (.int c2), .val (.ref x114), .val (.int (uniV ([c0, c1] : List Int32)))] [(.int (1 : Int32))])
      refine Run.via (fun _ => XS.goto X119.at X119.ex rfl (pc0 := 229) (pc' := 233) rfl (X119.de at_229) (by decide) (by decide)) ?_
      show Run _ _ _ _ _ _ _ _ _ _ _ _ T119 (mkF m 233 #[.val (.int x0), .val (.int x1), .val (.int x2), .val (.int len), .val (.int (2 : Int32)), .val (.int c0), .val (.int c1), .val (.int c2), .val (.ref x114), .val (.int (uniV ([c0, c1] : List Int32)))] [(.int (1 : Int32))])
      exact Run.retN X119 (t := .boolean) rfl (by simp) at_233 (Nat.le_of_ble_eq_true rfl) (Nat.le_of_ble_eq_true rfl) (rfl)
    refine Run.callS X116 (y := (⟨"com/example/shelfwright/shelfwright/catalog/TextsIsUnicodePinLaw", "pair", "(CC)Z"⟩ : MethodName)) (W := 0) (con_pa l hw X116.old) (wd hw 122 rfl) (wd hw 123 rfl) (wd hw 3 rfl) (wd hw 124 rfl) (by decide) pd__CC_Z rfl (argsL := [(.int c0), (.int c1)]) (rest := []) rfl (Nat.le_of_ble_eq_true rfl) rfl at_112 (by decide) (by decide) (Nat.le_of_ble_eq_true rfl) (Nat.le_of_ble_eq_true rfl) (nofun) (nofun) ?_
    intro v120 T120 h120 L120 q120 X120 XF120 K120
    obtain ⟨rfl, rfl⟩ := q120
    show Run _ _ _ _ _ _ _ _ _ _ _ _ T120 (mkF m 115 #[.val (.int x0), .val (.int x1), .val (.int x2), .val (.int len), .val (.int (2 : Int32)), .val (.int c0), .val (.int c1), .val (.int c2), .val (.ref x114), .unset] [(.int (pairV c0 c1))])
    by_cases q0 : (pairV c0 c1) = (0 : Int32)
    ·
      refine Run.via (fun _ => XS.ifNo X120.at X120.ex rfl (X120.de at_115) rfl ((if0 _ _).trans (teq q0).2)) ?_
      show Run _ _ _ _ _ _ _ _ _ _ _ _ T120 (mkF m 118 #[.val (.int x0), .val (.int x1), .val (.int x2), .val (.int len), .val (.int (2 : Int32)), .val (.int c0), .val (.int c1), .val (.int c2), .val (.ref x114), .unset] [])
      refine Run.via (fun _ => XS.iload X120.at X120.ex rfl (X120.de at_118) rfl) ?_
      show Run _ _ _ _ _ _ _ _ _ _ _ _ T120 (mkF m 120 #[.val (.int x0), .val (.int x1), .val (.int x2), .val (.int len), .val (.int (2 : Int32)), .val (.int c0), .val (.int c1), .val (.int c2), .val (.ref x114), .unset] [(.int c0)])
      refine Run.callS X120 (y := (⟨"com/example/shelfwright/shelfwright/catalog/TextsIsUnicodePinLaw", "sur", "(C)Z"⟩ : MethodName)) (W := 0) (con_su l hw X120.old) (wd hw 7 rfl) (wd hw 8 rfl) (wd hw 3 rfl) (wd hw 9 rfl) (by decide) pd__C_Z rfl (argsL := [(.int c0)]) (rest := []) rfl (Nat.le_of_ble_eq_true rfl) rfl at_120 (by decide) (by decide) (Nat.le_of_ble_eq_true rfl) (Nat.le_of_ble_eq_true rfl) (nofun) (nofun) ?_
      intro v121 T121 h121 L121 q121 X121 XF121 K121
      obtain ⟨rfl, rfl⟩ := q121
      show Run _ _ _ _ _ _ _ _ _ _ _ _ T121 (mkF m 123 #[.val (.int x0), .val (.int x1), .val (.int x2), .val (.int len), .val (.int (2 : Int32)), .val (.int c0), .val (.int c1), .val (.int c2), .val (.ref x114), .unset] [(.int (surV c0))])
      by_cases q1 : (surV c0) = (0 : Int32)
      ·
        refine Run.via (fun _ => XS.ifNo X121.at X121.ex rfl (X121.de at_123) rfl ((if0 _ _).trans (teq q1).2)) ?_
        show Run _ _ _ _ _ _ _ _ _ _ _ _ T121 (mkF m 126 #[.val (.int x0), .val (.int x1), .val (.int x2), .val (.int len), .val (.int (2 : Int32)), .val (.int c0), .val (.int c1), .val (.int c2), .val (.ref x114), .unset] [])
        refine Run.via (fun _ => XS.iload X121.at X121.ex rfl (X121.de at_126) rfl) ?_
        show Run _ _ _ _ _ _ _ _ _ _ _ _ T121 (mkF m 128 #[.val (.int x0), .val (.int x1), .val (.int x2), .val (.int len), .val (.int (2 : Int32)), .val (.int c0), .val (.int c1), .val (.int c2), .val (.ref x114), .unset] [(.int c1)])
        refine Run.callS X121 (y := (⟨"com/example/shelfwright/shelfwright/catalog/TextsIsUnicodePinLaw", "sur", "(C)Z"⟩ : MethodName)) (W := 0) (con_su l hw X121.old) (wd hw 7 rfl) (wd hw 8 rfl) (wd hw 3 rfl) (wd hw 9 rfl) (by decide) pd__C_Z rfl (argsL := [(.int c1)]) (rest := []) rfl (Nat.le_of_ble_eq_true rfl) rfl at_128 (by decide) (by decide) (Nat.le_of_ble_eq_true rfl) (Nat.le_of_ble_eq_true rfl) (nofun) (nofun) ?_
        intro v122 T122 h122 L122 q122 X122 XF122 K122
        obtain ⟨rfl, rfl⟩ := q122
        show Run _ _ _ _ _ _ _ _ _ _ _ _ T122 (mkF m 131 #[.val (.int x0), .val (.int x1), .val (.int x2), .val (.int len), .val (.int (2 : Int32)), .val (.int c0), .val (.int c1), .val (.int c2), .val (.ref x114), .unset] [(.int (surV c1))])
        by_cases q2 : (surV c1) = (0 : Int32)
        ·
          refine Run.via (fun _ => XS.ifNo X122.at X122.ex rfl (X122.de at_131) rfl ((if0 _ _).trans (teq q2).2)) ?_
          show Run _ _ _ _ _ _ _ _ _ _ _ _ T122 (mkF m 134 #[.val (.int x0), .val (.int x1), .val (.int x2), .val (.int len), .val (.int (2 : Int32)), .val (.int c0), .val (.int c1), .val (.int c2), .val (.ref x114), .unset] [])
          refine Run.via (fun _ => XS.iconst X122.at X122.ex rfl (X122.de at_134)) ?_
          show Run _ _ _ _ _ _ _ _ _ _ _ _ T122 (mkF m 135 #[.val (.int x0), .val (.int x1), .val (.int x2), .val (.int len), .val (.int (2 : Int32)), .val (.int c0), .val (.int c1), .val (.int c2), .val (.ref x114), .unset] [(.int (1 : Int32))])
          refine Run.via (fun _ => XS.goto X122.at X122.ex rfl (pc0 := 135) (pc' := 139) rfl (X122.de at_135) (by decide) (by decide)) ?_
          show Run _ _ _ _ _ _ _ _ _ _ _ _ T122 (mkF m 139 #[.val (.int x0), .val (.int x1), .val (.int x2), .val (.int len), .val (.int (2 : Int32)), .val (.int c0), .val (.int c1), .val (.int c2), .val (.ref x114), .unset] [(.int (1 : Int32))])
          refine Run.via (fun _ => XS.istore X122.at X122.ex rfl (X122.de at_139) rfl (l' := #[.val (.int x0), .val (.int x1), .val (.int x2), .val (.int len), .val (.int (2 : Int32)), .val (.int c0), .val (.int c1), .val (.int c2), .val (.ref x114), .val (.int (1 : Int32))]) rfl) ?_
          show Run _ _ _ _ _ _ _ _ _ _ _ _ T122 (mkF m 141 #[.val (.int x0), .val (.int x1), .val (.int x2), .val (.int len), .val (.int (2 : Int32)), .val (.int c0), .val (.int c1), .val (.int c2), .val (.ref x114), .val (.int (1 : Int32))] [])
          refine Run.via (fun _ => XS.goto X122.at X122.ex rfl (pc0 := 141) (pc' := 211) rfl (X122.de at_141) (by decide) (by decide)) ?_
          show Run _ _ _ _ _ _ _ _ _ _ _ _ T122 (mkF m 211 #[.val (.int x0), .val (.int x1), .val (.int x2), .val (.int len), .val (.int (2 : Int32)), .val (.int c0), .val (.int c1), .val (.int c2), .val (.ref x114), .val (.int (1 : Int32))] [])
          exact J _ _ _ X122 (by rw [uni2]; simp [q0, q1, q2])
        ·
          refine Run.via (fun _ => XS.ifYes X122.at X122.ex rfl (pc0 := 131) (pc' := 138) rfl (X122.de at_131) rfl ((if0 _ _).trans (feq q2).2) (by decide) (by decide)) ?_
          show Run _ _ _ _ _ _ _ _ _ _ _ _ T122 (mkF m 138 #[.val (.int x0), .val (.int x1), .val (.int x2), .val (.int len), .val (.int (2 : Int32)), .val (.int c0), .val (.int c1), .val (.int c2), .val (.ref x114), .unset] [])
          refine Run.via (fun _ => XS.iconst X122.at X122.ex rfl (X122.de at_138)) ?_
          show Run _ _ _ _ _ _ _ _ _ _ _ _ T122 (mkF m 139 #[.val (.int x0), .val (.int x1), .val (.int x2), .val (.int len), .val (.int (2 : Int32)), .val (.int c0), .val (.int c1), .val (.int c2), .val (.ref x114), .unset] [(.int (0 : Int32))])
          refine Run.via (fun _ => XS.istore X122.at X122.ex rfl (X122.de at_139) rfl (l' := #[.val (.int x0), .val (.int x1), .val (.int x2), .val (.int len), .val (.int (2 : Int32)), .val (.int c0), .val (.int c1), .val (.int c2), .val (.ref x114), .val (.int (0 : Int32))]) rfl) ?_
          show Run _ _ _ _ _ _ _ _ _ _ _ _ T122 (mkF m 141 #[.val (.int x0), .val (.int x1), .val (.int x2), .val (.int len), .val (.int (2 : Int32)), .val (.int c0), .val (.int c1), .val (.int c2), .val (.ref x114), .val (.int (0 : Int32))] [])
          refine Run.via (fun _ => XS.goto X122.at X122.ex rfl (pc0 := 141) (pc' := 211) rfl (X122.de at_141) (by decide) (by decide)) ?_
          show Run _ _ _ _ _ _ _ _ _ _ _ _ T122 (mkF m 211 #[.val (.int x0), .val (.int x1), .val (.int x2), .val (.int len), .val (.int (2 : Int32)), .val (.int c0), .val (.int c1), .val (.int c2), .val (.ref x114), .val (.int (0 : Int32))] [])
          exact J _ _ _ X122 (by rw [uni2]; simp [q0, q1, q2])
      ·
        refine Run.via (fun _ => XS.ifYes X121.at X121.ex rfl (pc0 := 123) (pc' := 138) rfl (X121.de at_123) rfl ((if0 _ _).trans (feq q1).2) (by decide) (by decide)) ?_
        show Run _ _ _ _ _ _ _ _ _ _ _ _ T121 (mkF m 138 #[.val (.int x0), .val (.int x1), .val (.int x2), .val (.int len), .val (.int (2 : Int32)), .val (.int c0), .val (.int c1), .val (.int c2), .val (.ref x114), .unset] [])
        refine Run.via (fun _ => XS.iconst X121.at X121.ex rfl (X121.de at_138)) ?_
        show Run _ _ _ _ _ _ _ _ _ _ _ _ T121 (mkF m 139 #[.val (.int x0), .val (.int x1), .val (.int x2), .val (.int len), .val (.int (2 : Int32)), .val (.int c0), .val (.int c1), .val (.int c2), .val (.ref x114), .unset] [(.int (0 : Int32))])
        refine Run.via (fun _ => XS.istore X121.at X121.ex rfl (X121.de at_139) rfl (l' := #[.val (.int x0), .val (.int x1), .val (.int x2), .val (.int len), .val (.int (2 : Int32)), .val (.int c0), .val (.int c1), .val (.int c2), .val (.ref x114), .val (.int (0 : Int32))]) rfl) ?_
        show Run _ _ _ _ _ _ _ _ _ _ _ _ T121 (mkF m 141 #[.val (.int x0), .val (.int x1), .val (.int x2), .val (.int len), .val (.int (2 : Int32)), .val (.int c0), .val (.int c1), .val (.int c2), .val (.ref x114), .val (.int (0 : Int32))] [])
        refine Run.via (fun _ => XS.goto X121.at X121.ex rfl (pc0 := 141) (pc' := 211) rfl (X121.de at_141) (by decide) (by decide)) ?_
        show Run _ _ _ _ _ _ _ _ _ _ _ _ T121 (mkF m 211 #[.val (.int x0), .val (.int x1), .val (.int x2), .val (.int len), .val (.int (2 : Int32)), .val (.int c0), .val (.int c1), .val (.int c2), .val (.ref x114), .val (.int (0 : Int32))] [])
        exact J _ _ _ X121 (by rw [uni2]; simp [q0, q1])
    ·
      refine Run.via (fun _ => XS.ifYes X120.at X120.ex rfl (pc0 := 115) (pc' := 134) rfl (X120.de at_115) rfl ((if0 _ _).trans (feq q0).2) (by decide) (by decide)) ?_
      show Run _ _ _ _ _ _ _ _ _ _ _ _ T120 (mkF m 134 #[.val (.int x0), .val (.int x1), .val (.int x2), .val (.int len), .val (.int (2 : Int32)), .val (.int c0), .val (.int c1), .val (.int c2), .val (.ref x114), .unset] [])
      refine Run.via (fun _ => XS.iconst X120.at X120.ex rfl (X120.de at_134)) ?_
      show Run _ _ _ _ _ _ _ _ _ _ _ _ T120 (mkF m 135 #[.val (.int x0), .val (.int x1), .val (.int x2), .val (.int len), .val (.int (2 : Int32)), .val (.int c0), .val (.int c1), .val (.int c2), .val (.ref x114), .unset] [(.int (1 : Int32))])
      refine Run.via (fun _ => XS.goto X120.at X120.ex rfl (pc0 := 135) (pc' := 139) rfl (X120.de at_135) (by decide) (by decide)) ?_
      show Run _ _ _ _ _ _ _ _ _ _ _ _ T120 (mkF m 139 #[.val (.int x0), .val (.int x1), .val (.int x2), .val (.int len), .val (.int (2 : Int32)), .val (.int c0), .val (.int c1), .val (.int c2), .val (.ref x114), .unset] [(.int (1 : Int32))])
      refine Run.via (fun _ => XS.istore X120.at X120.ex rfl (X120.de at_139) rfl (l' := #[.val (.int x0), .val (.int x1), .val (.int x2), .val (.int len), .val (.int (2 : Int32)), .val (.int c0), .val (.int c1), .val (.int c2), .val (.ref x114), .val (.int (1 : Int32))]) rfl) ?_
      show Run _ _ _ _ _ _ _ _ _ _ _ _ T120 (mkF m 141 #[.val (.int x0), .val (.int x1), .val (.int x2), .val (.int len), .val (.int (2 : Int32)), .val (.int c0), .val (.int c1), .val (.int c2), .val (.ref x114), .val (.int (1 : Int32))] [])
      refine Run.via (fun _ => XS.goto X120.at X120.ex rfl (pc0 := 141) (pc' := 211) rfl (X120.de at_141) (by decide) (by decide)) ?_
      show Run _ _ _ _ _ _ _ _ _ _ _ _ T120 (mkF m 211 #[.val (.int x0), .val (.int x1), .val (.int x2), .val (.int len), .val (.int (2 : Int32)), .val (.int c0), .val (.int c1), .val (.int c2), .val (.ref x114), .val (.int (1 : Int32))] [])
      exact J _ _ _ X120 (by rw [uni2]; simp [q0, (pair_sur q0).1, (pair_sur q0).2])
  ·
    show Run _ _ _ _ _ _ _ _ _ _ _ _ T103 (mkF m 28 #[.val (.int x0), .val (.int x1), .val (.int x2), .val (.int len), .val (.int (3 : Int32)), .val (.int c0), .val (.int c1), .val (.int c2), .unset, .unset] [(.int (3 : Int32))])
    refine Run.newarr X103 (aty := .char) (n := 3) (cap := 3) (wd hw 6 rfl) rfl at_28 rfl (Nat.le_refl _) (by decide) (Nat.le_of_ble_eq_true rfl) (Nat.le_of_ble_eq_true rfl) ?_
    intro T123 h123 x123 g123 X123 K123 z123 A123
    have A123 : Arc .char Z h123 x123 [(0 : Int32), (0 : Int32), (0 : Int32)] := A123
    show Run _ _ _ _ _ _ _ _ _ _ _ _ T123 (mkF m 30 #[.val (.int x0), .val (.int x1), .val (.int x2), .val (.int len), .val (.int (3 : Int32)), .val (.int c0), .val (.int c1), .val (.int c2), .unset, .unset] [(.ref x123)])
    have s123 := K123.1
    refine Run.via (fun _ => XS.astore X123.at X123.ex rfl (X123.de at_30) rfl rfl (l' := #[.val (.int x0), .val (.int x1), .val (.int x2), .val (.int len), .val (.int (3 : Int32)), .val (.int c0), .val (.int c1), .val (.int c2), .val (.ref x123), .unset]) rfl) ?_
    show Run _ _ _ _ _ _ _ _ _ _ _ _ T123 (mkF m 32 #[.val (.int x0), .val (.int x1), .val (.int x2), .val (.int len), .val (.int (3 : Int32)), .val (.int c0), .val (.int c1), .val (.int c2), .val (.ref x123), .unset] [])
    refine Run.via (fun _ => XS.iload X123.at X123.ex rfl (X123.de at_32) rfl) ?_
    show Run _ _ _ _ _ _ _ _ _ _ _ _ T123 (mkF m 34 #[.val (.int x0), .val (.int x1), .val (.int x2), .val (.int len), .val (.int (3 : Int32)), .val (.int c0), .val (.int c1), .val (.int c2), .val (.ref x123), .unset] [(.int (3 : Int32))])
    refine Run.via (fun _ => XS.ifNo X123.at X123.ex rfl (X123.de at_34) rfl ((if0 _ _).trans (tlt (by decide : ((0 : Int32) < (3 : Int32)))).2.2.2)) ?_
    show Run _ _ _ _ _ _ _ _ _ _ _ _ T123 (mkF m 37 #[.val (.int x0), .val (.int x1), .val (.int x2), .val (.int len), .val (.int (3 : Int32)), .val (.int c0), .val (.int c1), .val (.int c2), .val (.ref x123), .unset] [])
    refine Run.via (fun _ => XS.aload X123.at X123.ex rfl (X123.de at_37) rfl rfl) ?_
    show Run _ _ _ _ _ _ _ _ _ _ _ _ T123 (mkF m 39 #[.val (.int x0), .val (.int x1), .val (.int x2), .val (.int len), .val (.int (3 : Int32)), .val (.int c0), .val (.int c1), .val (.int c2), .val (.ref x123), .unset] [(.ref x123)])
    refine Run.via (fun _ => XS.iconst X123.at X123.ex rfl (X123.de at_39)) ?_
    show Run _ _ _ _ _ _ _ _ _ _ _ _ T123 (mkF m 40 #[.val (.int x0), .val (.int x1), .val (.int x2), .val (.int len), .val (.int (3 : Int32)), .val (.int c0), .val (.int c1), .val (.int c2), .val (.ref x123), .unset] [(.int (0 : Int32)), (.ref x123)])
    refine Run.via (fun _ => XS.iload X123.at X123.ex rfl (X123.de at_40) rfl) ?_
    show Run _ _ _ _ _ _ _ _ _ _ _ _ T123 (mkF m 42 #[.val (.int x0), .val (.int x1), .val (.int x2), .val (.int len), .val (.int (3 : Int32)), .val (.int c0), .val (.int c1), .val (.int c2), .val (.ref x123), .unset] [(.int c0), (.int (0 : Int32)), (.ref x123)])
    refine Run.castore X123 (i := 0) (v' := c0) A123 rfl (Nat.le_of_ble_eq_true rfl) (nar_char r0) (Or.inr (by omega)) (by omega) at_42 ?_
    intro T124 h124 L124 X124 K124 z124 A124
    have A124 : Arc .char Z h124 x123 [c0, (0 : Int32), (0 : Int32)] := A124
    show Run _ _ _ _ _ _ _ _ _ _ _ _ T124 (mkF m 43 #[.val (.int x0), .val (.int x1), .val (.int x2), .val (.int len), .val (.int (3 : Int32)), .val (.int c0), .val (.int c1), .val (.int c2), .val (.ref x123), .unset] [])
    refine Run.via (fun _ => XS.iload X124.at X124.ex rfl (X124.de at_43) rfl) ?_
    show Run _ _ _ _ _ _ _ _ _ _ _ _ T124 (mkF m 45 #[.val (.int x0), .val (.int x1), .val (.int x2), .val (.int len), .val (.int (3 : Int32)), .val (.int c0), .val (.int c1), .val (.int c2), .val (.ref x123), .unset] [(.int (3 : Int32))])
    refine Run.via (fun _ => XS.iconst X124.at X124.ex rfl (X124.de at_45)) ?_
    show Run _ _ _ _ _ _ _ _ _ _ _ _ T124 (mkF m 46 #[.val (.int x0), .val (.int x1), .val (.int x2), .val (.int len), .val (.int (3 : Int32)), .val (.int c0), .val (.int c1), .val (.int c2), .val (.ref x123), .unset] [(.int (1 : Int32)), (.int (3 : Int32))])
    refine Run.via (fun _ => XS.icmpNo X124.at X124.ex rfl (X124.de at_46) rfl (tlt (by decide : ((1 : Int32) < (3 : Int32)))).2.2.2) ?_
    show Run _ _ _ _ _ _ _ _ _ _ _ _ T124 (mkF m 49 #[.val (.int x0), .val (.int x1), .val (.int x2), .val (.int len), .val (.int (3 : Int32)), .val (.int c0), .val (.int c1), .val (.int c2), .val (.ref x123), .unset] [])
    refine Run.via (fun _ => XS.aload X124.at X124.ex rfl (X124.de at_49) rfl rfl) ?_
    show Run _ _ _ _ _ _ _ _ _ _ _ _ T124 (mkF m 51 #[.val (.int x0), .val (.int x1), .val (.int x2), .val (.int len), .val (.int (3 : Int32)), .val (.int c0), .val (.int c1), .val (.int c2), .val (.ref x123), .unset] [(.ref x123)])
    refine Run.via (fun _ => XS.iconst X124.at X124.ex rfl (X124.de at_51)) ?_
    show Run _ _ _ _ _ _ _ _ _ _ _ _ T124 (mkF m 52 #[.val (.int x0), .val (.int x1), .val (.int x2), .val (.int len), .val (.int (3 : Int32)), .val (.int c0), .val (.int c1), .val (.int c2), .val (.ref x123), .unset] [(.int (1 : Int32)), (.ref x123)])
    refine Run.via (fun _ => XS.iload X124.at X124.ex rfl (X124.de at_52) rfl) ?_
    show Run _ _ _ _ _ _ _ _ _ _ _ _ T124 (mkF m 54 #[.val (.int x0), .val (.int x1), .val (.int x2), .val (.int len), .val (.int (3 : Int32)), .val (.int c0), .val (.int c1), .val (.int c2), .val (.ref x123), .unset] [(.int c1), (.int (1 : Int32)), (.ref x123)])
    refine Run.castore X124 (i := 1) (v' := c1) A124 rfl (Nat.le_of_ble_eq_true rfl) (nar_char r1) (Or.inr (by omega)) (by omega) at_54 ?_
    intro T125 h125 L125 X125 K125 z125 A125
    have A125 : Arc .char Z h125 x123 [c0, c1, (0 : Int32)] := A125
    show Run _ _ _ _ _ _ _ _ _ _ _ _ T125 (mkF m 55 #[.val (.int x0), .val (.int x1), .val (.int x2), .val (.int len), .val (.int (3 : Int32)), .val (.int c0), .val (.int c1), .val (.int c2), .val (.ref x123), .unset] [])
    refine Run.via (fun _ => XS.iload X125.at X125.ex rfl (X125.de at_55) rfl) ?_
    show Run _ _ _ _ _ _ _ _ _ _ _ _ T125 (mkF m 57 #[.val (.int x0), .val (.int x1), .val (.int x2), .val (.int len), .val (.int (3 : Int32)), .val (.int c0), .val (.int c1), .val (.int c2), .val (.ref x123), .unset] [(.int (3 : Int32))])
    refine Run.via (fun _ => XS.iconst X125.at X125.ex rfl (X125.de at_57)) ?_
    show Run _ _ _ _ _ _ _ _ _ _ _ _ T125 (mkF m 58 #[.val (.int x0), .val (.int x1), .val (.int x2), .val (.int len), .val (.int (3 : Int32)), .val (.int c0), .val (.int c1), .val (.int c2), .val (.ref x123), .unset] [(.int (2 : Int32)), (.int (3 : Int32))])
    refine Run.via (fun _ => XS.icmpNo X125.at X125.ex rfl (X125.de at_58) rfl (tlt (by decide : ((2 : Int32) < (3 : Int32)))).2.2.2) ?_
    show Run _ _ _ _ _ _ _ _ _ _ _ _ T125 (mkF m 61 #[.val (.int x0), .val (.int x1), .val (.int x2), .val (.int len), .val (.int (3 : Int32)), .val (.int c0), .val (.int c1), .val (.int c2), .val (.ref x123), .unset] [])
    refine Run.via (fun _ => XS.aload X125.at X125.ex rfl (X125.de at_61) rfl rfl) ?_
    show Run _ _ _ _ _ _ _ _ _ _ _ _ T125 (mkF m 63 #[.val (.int x0), .val (.int x1), .val (.int x2), .val (.int len), .val (.int (3 : Int32)), .val (.int c0), .val (.int c1), .val (.int c2), .val (.ref x123), .unset] [(.ref x123)])
    refine Run.via (fun _ => XS.iconst X125.at X125.ex rfl (X125.de at_63)) ?_
    show Run _ _ _ _ _ _ _ _ _ _ _ _ T125 (mkF m 64 #[.val (.int x0), .val (.int x1), .val (.int x2), .val (.int len), .val (.int (3 : Int32)), .val (.int c0), .val (.int c1), .val (.int c2), .val (.ref x123), .unset] [(.int (2 : Int32)), (.ref x123)])
    refine Run.via (fun _ => XS.iload X125.at X125.ex rfl (X125.de at_64) rfl) ?_
    show Run _ _ _ _ _ _ _ _ _ _ _ _ T125 (mkF m 66 #[.val (.int x0), .val (.int x1), .val (.int x2), .val (.int len), .val (.int (3 : Int32)), .val (.int c0), .val (.int c1), .val (.int c2), .val (.ref x123), .unset] [(.int c2), (.int (2 : Int32)), (.ref x123)])
    refine Run.castore X125 (i := 2) (v' := c2) A125 rfl (Nat.le_of_ble_eq_true rfl) (nar_char r2) (Or.inr (by omega)) (by omega) at_66 ?_
    intro T126 h126 L126 X126 K126 z126 A126
    have A126 : Arc .char Z h126 x123 [c0, c1, c2] := A126
    show Run _ _ _ _ _ _ _ _ _ _ _ _ T126 (mkF m 67 #[.val (.int x0), .val (.int x1), .val (.int x2), .val (.int len), .val (.int (3 : Int32)), .val (.int c0), .val (.int c1), .val (.int c2), .val (.ref x123), .unset] [])
    refine Run.via (fun _ => XS.iload X126.at X126.ex rfl (X126.de at_67) rfl) ?_
    show Run _ _ _ _ _ _ _ _ _ _ _ _ T126 (mkF m 69 #[.val (.int x0), .val (.int x1), .val (.int x2), .val (.int len), .val (.int (3 : Int32)), .val (.int c0), .val (.int c1), .val (.int c2), .val (.ref x123), .unset] [(.int (3 : Int32))])
    refine Run.via (fun _ => XS.ifYes X126.at X126.ex rfl (pc0 := 69) (pc' := 78) rfl (X126.de at_69) rfl ((if0 _ _).trans (feq (by decide : ¬ ((3 : Int32) = (0 : Int32)))).2) (by decide) (by decide)) ?_
    show Run _ _ _ _ _ _ _ _ _ _ _ _ T126 (mkF m 78 #[.val (.int x0), .val (.int x1), .val (.int x2), .val (.int len), .val (.int (3 : Int32)), .val (.int c0), .val (.int c1), .val (.int c2), .val (.ref x123), .unset] [])
    refine Run.via (fun _ => XS.iload X126.at X126.ex rfl (X126.de at_78) rfl) ?_
    show Run _ _ _ _ _ _ _ _ _ _ _ _ T126 (mkF m 80 #[.val (.int x0), .val (.int x1), .val (.int x2), .val (.int len), .val (.int (3 : Int32)), .val (.int c0), .val (.int c1), .val (.int c2), .val (.ref x123), .unset] [(.int (3 : Int32))])
    refine Run.via (fun _ => XS.iconst X126.at X126.ex rfl (X126.de at_80)) ?_
    show Run _ _ _ _ _ _ _ _ _ _ _ _ T126 (mkF m 81 #[.val (.int x0), .val (.int x1), .val (.int x2), .val (.int len), .val (.int (3 : Int32)), .val (.int c0), .val (.int c1), .val (.int c2), .val (.ref x123), .unset] [(.int (1 : Int32)), (.int (3 : Int32))])
    refine Run.via (fun _ => XS.icmpYes X126.at X126.ex rfl (pc0 := 81) (pc' := 102) rfl (X126.de at_81) rfl (feq (by decide : ¬ ((3 : Int32) = (1 : Int32)))).2 (by decide) (by decide)) ?_
    show Run _ _ _ _ _ _ _ _ _ _ _ _ T126 (mkF m 102 #[.val (.int x0), .val (.int x1), .val (.int x2), .val (.int len), .val (.int (3 : Int32)), .val (.int c0), .val (.int c1), .val (.int c2), .val (.ref x123), .unset] [])
    refine Run.via (fun _ => XS.iload X126.at X126.ex rfl (X126.de at_102) rfl) ?_
    show Run _ _ _ _ _ _ _ _ _ _ _ _ T126 (mkF m 104 #[.val (.int x0), .val (.int x1), .val (.int x2), .val (.int len), .val (.int (3 : Int32)), .val (.int c0), .val (.int c1), .val (.int c2), .val (.ref x123), .unset] [(.int (3 : Int32))])
    refine Run.via (fun _ => XS.iconst X126.at X126.ex rfl (X126.de at_104)) ?_
    show Run _ _ _ _ _ _ _ _ _ _ _ _ T126 (mkF m 105 #[.val (.int x0), .val (.int x1), .val (.int x2), .val (.int len), .val (.int (3 : Int32)), .val (.int c0), .val (.int c1), .val (.int c2), .val (.ref x123), .unset] [(.int (2 : Int32)), (.int (3 : Int32))])
    refine Run.via (fun _ => XS.icmpYes X126.at X126.ex rfl (pc0 := 105) (pc' := 144) rfl (X126.de at_105) rfl (feq (by decide : ¬ ((3 : Int32) = (2 : Int32)))).2 (by decide) (by decide)) ?_
    show Run _ _ _ _ _ _ _ _ _ _ _ _ T126 (mkF m 144 #[.val (.int x0), .val (.int x1), .val (.int x2), .val (.int len), .val (.int (3 : Int32)), .val (.int c0), .val (.int c1), .val (.int c2), .val (.ref x123), .unset] [])
    refine Run.via (fun _ => XS.iload X126.at X126.ex rfl (X126.de at_144) rfl) ?_
    show Run _ _ _ _ _ _ _ _ _ _ _ _ T126 (mkF m 146 #[.val (.int x0), .val (.int x1), .val (.int x2), .val (.int len), .val (.int (3 : Int32)), .val (.int c0), .val (.int c1), .val (.int c2), .val (.ref x123), .unset] [(.int c0)])
    refine Run.via (fun _ => XS.iload X126.at X126.ex rfl (X126.de at_146) rfl) ?_
    show Run _ _ _ _ _ _ _ _ _ _ _ _ T126 (mkF m 148 #[.val (.int x0), .val (.int x1), .val (.int x2), .val (.int len), .val (.int (3 : Int32)), .val (.int c0), .val (.int c1), .val (.int c2), .val (.ref x123), .unset] [(.int c1), (.int c0)])
    have J : ∀ (Tj : State) (Lq : List Loc) (ex : Int32), Sit Z a0 EL p l e room_1 s m #[(.int x0), (.int x1), (.int x2), (.int len)] below meth c "com/example/shelfwright/shelfwright/catalog/TextsIsUnicodePinLaw" code maxLocals ret "law" h0 [] [x123] Tj h126 Lq 1 3 → ex = uniV ([c0, c1, c2] : List Int32) → Run Z EL false p e below s h0 [] (fun v _ => v = some (.int 1)) room_1.cells room_1.slots Tj (mkF m 211 #[.val (.int x0), .val (.int x1), .val (.int x2), .val (.int len), .val (.int (3 : Int32)), .val (.int c0), .val (.int c1), .val (.int c2), .val (.ref x123), .val (.int ex)] []) := by
      intro Tj Lq ex Xj hex
      subst hex
      show Run _ _ _ _ _ _ _ _ _ _ _ _ Tj (mkF m 211 #[.val (.int x0), .val (.int x1), .val (.int x2), .val (.int len), .val (.int (3 : Int32)), .val (.int c0), .val (.int c1), .val (.int c2), .val (.ref x123), .val (.int (uniV ([c0, c1, c2] : List Int32)))] [])
      have uj := Xj.kp.1
      refine Run.new Xj (wd hw 14 rfl) (wd hw 15 rfl) (wd hw 16 rfl) at_211 (Nat.le_of_ble_eq_true rfl) (Nat.le_of_ble_eq_true rfl) ?_
      intro T127 h127 x127 g127 X127 K127 z127 E127 D127
      show Run _ _ _ _ _ _ _ _ _ _ _ _ T127 (mkF m 214 #[.val (.int x0), .val (.int x1), .val (.int x2), .val (.int len), .val (.int (3 : Int32)), .val (.int c0), .val (.int c1), .val (.int c2), .val (.ref x123), .val (.int (uniV ([c0, c1, c2] : List Int32)))] [(.ref x127)])
      have s127 := K127.1
      have A127x := A126.keep K127 nin0
      have G127 : Raw Z h127 x127 := ⟨E127, D127 (Or.inr (wd hw 61 rfl)) (ty := (.array .byte)) (by decide), D127 (Or.inr (wd hw 59 rfl)) (ty := .byte) (by decide)⟩
      refine Run.via (fun _ => XS.dup X127.at X127.ex rfl (X127.de at_214) rfl rfl) ?_
      show Run _ _ _ _ _ _ _ _ _ _ _ _ T127 (mkF m 215 #[.val (.int x0), .val (.int x1), .val (.int x2), .val (.int len), .val (.int (3 : Int32)), .val (.int c0), .val (.int c1), .val (.int c2), .val (.ref x123), .val (.int (uniV ([c0, c1, c2] : List Int32)))] [(.ref x127), (.ref x127)])
      refine Run.via (fun _ => XS.aload X127.at X127.ex rfl (X127.de at_215) rfl rfl) ?_
      show Run _ _ _ _ _ _ _ _ _ _ _ _ T127 (mkF m 217 #[.val (.int x0), .val (.int x1), .val (.int x2), .val (.int len), .val (.int (3 : Int32)), .val (.int c0), .val (.int c1), .val (.int c2), .val (.ref x123), .val (.int (uniV ([c0, c1, c2] : List Int32)))] [(.ref x123), (.ref x127), (.ref x127)])
      refine Run.initAny hw hS hU X127 (cs := [c0, c1, c2]) (W := 1) G127 A127x (lsS r0 (lsS r1 (lsS r2 (ls0)))) (Nat.le_of_ble_eq_true rfl) (Nat.le_of_ble_eq_true rfl) (wd hw 17 rfl) at_217 rfl (Or.inr (by omega)) (by omega) (by simp) (Nat.le_of_ble_eq_true rfl) (by decide) (by decide) (Nat.le_of_ble_eq_true rfl) (Nat.le_of_ble_eq_true rfl) ?_
      intro T128 h128 L128 X128 K128 S128
      show Run _ _ _ _ _ _ _ _ _ _ _ _ T128 (mkF m 220 #[.val (.int x0), .val (.int x1), .val (.int x2), .val (.int len), .val (.int (3 : Int32)), .val (.int c0), .val (.int c1), .val (.int c2), .val (.ref x123), .val (.int (uniV ([c0, c1, c2] : List Int32)))] [(.ref x127)])
      refine Run.callS X128 (y := (⟨"com/example/shelfwright/shelfwright/catalog/Texts", "isUnicode", "(Ljava/lang/String;)Z"⟩ : MethodName)) (W := 0) (con_iu l hw hS hU (Nat.le_of_ble_eq_true rfl) S128 X128.old) (wd hw 62 rfl) (wd hw 63 rfl) (wd hw 64 rfl) (wd hw 65 rfl) (by decide) pd__Ljava_lang_String__Z rfl (argsL := [(.ref x127)]) (rest := []) rfl (Nat.le_of_ble_eq_true rfl) rfl at_220 (by decide) (by decide) (Nat.le_of_ble_eq_true rfl) (Nat.le_of_ble_eq_true rfl) (nofun) (nofun) ?_
      intro v129 T129 h129 L129 q129 X129 XF129 K129
      obtain rfl := q129
      show Run _ _ _ _ _ _ _ _ _ _ _ _ T129 (mkF m 223 #[.val (.int x0), .val (.int x1), .val (.int x2), .val (.int len), .val (.int (3 : Int32)), .val (.int c0), .val (.int c1), .val (.int c2), .val (.ref x123), .val (.int (uniV ([c0, c1, c2] : List Int32)))] [(.int (uniV ([c0, c1, c2] : List Int32)))])
      refine Run.via (fun _ => XS.iload X129.at X129.ex rfl (X129.de at_223) rfl) ?_
      show Run _ _ _ _ _ _ _ _ _ _ _ _ T129 (mkF m 225 #[.val (.int x0), .val (.int x1), .val (.int x2), .val (.int len), .val (.int (3 : Int32)), .val (.int c0), .val (.int c1), .val (.int c2), .val (.ref x123), .val (.int (uniV ([c0, c1, c2] : List Int32)))] [(.int (uniV ([c0, c1, c2] : List Int32))), (.int (uniV ([c0, c1, c2] : List Int32)))])
      refine Run.via (fun _ => XS.icmpNo X129.at X129.ex rfl (X129.de at_225) rfl (teq (rfl : (uniV ([c0, c1, c2] : List Int32)) = (uniV ([c0, c1, c2] : List Int32)))).2) ?_
      show Run _ _ _ _ _ _ _ _ _ _ _ _ T129 (mkF m 228 #[.val (.int x0), .val (.int x1), .val (.int x2), .val (.int len), .val (.int (3 : Int32)), .val (.int c0), .val (.int c1), .val (.int c2), .val (.ref x123), .val (.int (uniV ([c0, c1, c2] : List Int32)))] [])
      refine Run.via (fun _ => XS.iconst X129.at X129.ex rfl (X129.de at_228)) ?_
      show Run _ _ _ _ _ _ _ _ _ _ _ _ T129 (mkF m 229 #[.val (.int x0), .val (.int x1), .val (.int x2), .val (.int len), .val (.int (3 : Int32)), .val (.int c0), .val (.int c1), .val (.int c2), .val (.ref x123), .val (.int (uniV ([c0, c1, c2] : List Int32)))] [(.int (1 : Int32))])
      refine Run.via (fun _ => XS.goto X129.at X129.ex rfl (pc0 := 229) (pc' := 233) rfl (X129.de at_229) (by decide) (by decide)) ?_
      show Run _ _ _ _ _ _ _ _ _ _ _ _ T129 (mkF m 233 #[.val (.int x0), .val (.int x1), .val (.int x2), .val (.int len), .val (.int (3 : Int32)), .val (.int c0), .val (.int c1), .val (.int c2), .val (.ref x123), .val (.int (uniV ([c0, c1, c2] : List Int32)))] [(.int (1 : Int32))])
      exact Run.retN X129 (t := .boolean) rfl (by simp) at_233 (Nat.le_of_ble_eq_true rfl) (Nat.le_of_ble_eq_true rfl) (rfl)
    refine Run.callS X126 (y := (⟨"com/example/shelfwright/shelfwright/catalog/TextsIsUnicodePinLaw", "pair", "(CC)Z"⟩ : MethodName)) (W := 0) (con_pa l hw X126.old) (wd hw 122 rfl) (wd hw 123 rfl) (wd hw 3 rfl) (wd hw 124 rfl) (by decide) pd__CC_Z rfl (argsL := [(.int c0), (.int c1)]) (rest := []) rfl (Nat.le_of_ble_eq_true rfl) rfl at_148 (by decide) (by decide) (Nat.le_of_ble_eq_true rfl) (Nat.le_of_ble_eq_true rfl) (nofun) (nofun) ?_
    intro v130 T130 h130 L130 q130 X130 XF130 K130
    obtain ⟨rfl, rfl⟩ := q130
    show Run _ _ _ _ _ _ _ _ _ _ _ _ T130 (mkF m 151 #[.val (.int x0), .val (.int x1), .val (.int x2), .val (.int len), .val (.int (3 : Int32)), .val (.int c0), .val (.int c1), .val (.int c2), .val (.ref x123), .unset] [(.int (pairV c0 c1))])
    by_cases q0 : (pairV c0 c1) = (0 : Int32)
    ·
      refine Run.via (fun _ => XS.ifYes X130.at X130.ex rfl (pc0 := 151) (pc' := 162) rfl (X130.de at_151) rfl ((if0 _ _).trans (teq q0).1) (by decide) (by decide)) ?_
      show Run _ _ _ _ _ _ _ _ _ _ _ _ T130 (mkF m 162 #[.val (.int x0), .val (.int x1), .val (.int x2), .val (.int len), .val (.int (3 : Int32)), .val (.int c0), .val (.int c1), .val (.int c2), .val (.ref x123), .unset] [])
      refine Run.via (fun _ => XS.iload X130.at X130.ex rfl (X130.de at_162) rfl) ?_
      show Run _ _ _ _ _ _ _ _ _ _ _ _ T130 (mkF m 164 #[.val (.int x0), .val (.int x1), .val (.int x2), .val (.int len), .val (.int (3 : Int32)), .val (.int c0), .val (.int c1), .val (.int c2), .val (.ref x123), .unset] [(.int c0)])
      refine Run.callS X130 (y := (⟨"com/example/shelfwright/shelfwright/catalog/TextsIsUnicodePinLaw", "sur", "(C)Z"⟩ : MethodName)) (W := 0) (con_su l hw X130.old) (wd hw 7 rfl) (wd hw 8 rfl) (wd hw 3 rfl) (wd hw 9 rfl) (by decide) pd__C_Z rfl (argsL := [(.int c0)]) (rest := []) rfl (Nat.le_of_ble_eq_true rfl) rfl at_164 (by decide) (by decide) (Nat.le_of_ble_eq_true rfl) (Nat.le_of_ble_eq_true rfl) (nofun) (nofun) ?_
      intro v131 T131 h131 L131 q131 X131 XF131 K131
      obtain ⟨rfl, rfl⟩ := q131
      show Run _ _ _ _ _ _ _ _ _ _ _ _ T131 (mkF m 167 #[.val (.int x0), .val (.int x1), .val (.int x2), .val (.int len), .val (.int (3 : Int32)), .val (.int c0), .val (.int c1), .val (.int c2), .val (.ref x123), .unset] [(.int (surV c0))])
      by_cases q1 : (surV c0) = (0 : Int32)
      ·
        refine Run.via (fun _ => XS.ifNo X131.at X131.ex rfl (X131.de at_167) rfl ((if0 _ _).trans (teq q1).2)) ?_
        show Run _ _ _ _ _ _ _ _ _ _ _ _ T131 (mkF m 170 #[.val (.int x0), .val (.int x1), .val (.int x2), .val (.int len), .val (.int (3 : Int32)), .val (.int c0), .val (.int c1), .val (.int c2), .val (.ref x123), .unset] [])
        refine Run.via (fun _ => XS.iload X131.at X131.ex rfl (X131.de at_170) rfl) ?_
        show Run _ _ _ _ _ _ _ _ _ _ _ _ T131 (mkF m 172 #[.val (.int x0), .val (.int x1), .val (.int x2), .val (.int len), .val (.int (3 : Int32)), .val (.int c0), .val (.int c1), .val (.int c2), .val (.ref x123), .unset] [(.int c1)])
        refine Run.via (fun _ => XS.iload X131.at X131.ex rfl (X131.de at_172) rfl) ?_
        show Run _ _ _ _ _ _ _ _ _ _ _ _ T131 (mkF m 174 #[.val (.int x0), .val (.int x1), .val (.int x2), .val (.int len), .val (.int (3 : Int32)), .val (.int c0), .val (.int c1), .val (.int c2), .val (.ref x123), .unset] [(.int c2), (.int c1)])
        refine Run.callS X131 (y := (⟨"com/example/shelfwright/shelfwright/catalog/TextsIsUnicodePinLaw", "pair", "(CC)Z"⟩ : MethodName)) (W := 0) (con_pa l hw X131.old) (wd hw 122 rfl) (wd hw 123 rfl) (wd hw 3 rfl) (wd hw 124 rfl) (by decide) pd__CC_Z rfl (argsL := [(.int c1), (.int c2)]) (rest := []) rfl (Nat.le_of_ble_eq_true rfl) rfl at_174 (by decide) (by decide) (Nat.le_of_ble_eq_true rfl) (Nat.le_of_ble_eq_true rfl) (nofun) (nofun) ?_
        intro v132 T132 h132 L132 q132 X132 XF132 K132
        obtain ⟨rfl, rfl⟩ := q132
        show Run _ _ _ _ _ _ _ _ _ _ _ _ T132 (mkF m 177 #[.val (.int x0), .val (.int x1), .val (.int x2), .val (.int len), .val (.int (3 : Int32)), .val (.int c0), .val (.int c1), .val (.int c2), .val (.ref x123), .unset] [(.int (pairV c1 c2))])
        by_cases q2 : (pairV c1 c2) = (0 : Int32)
        ·
          refine Run.via (fun _ => XS.ifNo X132.at X132.ex rfl (X132.de at_177) rfl ((if0 _ _).trans (teq q2).2)) ?_
          show Run _ _ _ _ _ _ _ _ _ _ _ _ T132 (mkF m 180 #[.val (.int x0), .val (.int x1), .val (.int x2), .val (.int len), .val (.int (3 : Int32)), .val (.int c0), .val (.int c1), .val (.int c2), .val (.ref x123), .unset] [])
          refine Run.via (fun _ => XS.iload X132.at X132.ex rfl (X132.de at_180) rfl) ?_
          show Run _ _ _ _ _ _ _ _ _ _ _ _ T132 (mkF m 182 #[.val (.int x0), .val (.int x1), .val (.int x2), .val (.int len), .val (.int (3 : Int32)), .val (.int c0), .val (.int c1), .val (.int c2), .val (.ref x123), .unset] [(.int c0)])
          refine Run.callS X132 (y := (⟨"com/example/shelfwright/shelfwright/catalog/TextsIsUnicodePinLaw", "sur", "(C)Z"⟩ : MethodName)) (W := 0) (con_su l hw X132.old) (wd hw 7 rfl) (wd hw 8 rfl) (wd hw 3 rfl) (wd hw 9 rfl) (by decide) pd__C_Z rfl (argsL := [(.int c0)]) (rest := []) rfl (Nat.le_of_ble_eq_true rfl) rfl at_182 (by decide) (by decide) (Nat.le_of_ble_eq_true rfl) (Nat.le_of_ble_eq_true rfl) (nofun) (nofun) ?_
          intro v133 T133 h133 L133 q133 X133 XF133 K133
          obtain ⟨rfl, rfl⟩ := q133
          show Run _ _ _ _ _ _ _ _ _ _ _ _ T133 (mkF m 185 #[.val (.int x0), .val (.int x1), .val (.int x2), .val (.int len), .val (.int (3 : Int32)), .val (.int c0), .val (.int c1), .val (.int c2), .val (.ref x123), .unset] [(.int (surV c0))])
          refine Run.via (fun _ => XS.ifNo X133.at X133.ex rfl (X133.de at_185) rfl ((if0 _ _).trans (teq q1).2)) ?_
          show Run _ _ _ _ _ _ _ _ _ _ _ _ T133 (mkF m 188 #[.val (.int x0), .val (.int x1), .val (.int x2), .val (.int len), .val (.int (3 : Int32)), .val (.int c0), .val (.int c1), .val (.int c2), .val (.ref x123), .unset] [])
          refine Run.via (fun _ => XS.iload X133.at X133.ex rfl (X133.de at_188) rfl) ?_
          show Run _ _ _ _ _ _ _ _ _ _ _ _ T133 (mkF m 190 #[.val (.int x0), .val (.int x1), .val (.int x2), .val (.int len), .val (.int (3 : Int32)), .val (.int c0), .val (.int c1), .val (.int c2), .val (.ref x123), .unset] [(.int c1)])
          refine Run.callS X133 (y := (⟨"com/example/shelfwright/shelfwright/catalog/TextsIsUnicodePinLaw", "sur", "(C)Z"⟩ : MethodName)) (W := 0) (con_su l hw X133.old) (wd hw 7 rfl) (wd hw 8 rfl) (wd hw 3 rfl) (wd hw 9 rfl) (by decide) pd__C_Z rfl (argsL := [(.int c1)]) (rest := []) rfl (Nat.le_of_ble_eq_true rfl) rfl at_190 (by decide) (by decide) (Nat.le_of_ble_eq_true rfl) (Nat.le_of_ble_eq_true rfl) (nofun) (nofun) ?_
          intro v134 T134 h134 L134 q134 X134 XF134 K134
          obtain ⟨rfl, rfl⟩ := q134
          show Run _ _ _ _ _ _ _ _ _ _ _ _ T134 (mkF m 193 #[.val (.int x0), .val (.int x1), .val (.int x2), .val (.int len), .val (.int (3 : Int32)), .val (.int c0), .val (.int c1), .val (.int c2), .val (.ref x123), .unset] [(.int (surV c1))])
          by_cases q3 : (surV c1) = (0 : Int32)
          ·
            refine Run.via (fun _ => XS.ifNo X134.at X134.ex rfl (X134.de at_193) rfl ((if0 _ _).trans (teq q3).2)) ?_
            show Run _ _ _ _ _ _ _ _ _ _ _ _ T134 (mkF m 196 #[.val (.int x0), .val (.int x1), .val (.int x2), .val (.int len), .val (.int (3 : Int32)), .val (.int c0), .val (.int c1), .val (.int c2), .val (.ref x123), .unset] [])
            refine Run.via (fun _ => XS.iload X134.at X134.ex rfl (X134.de at_196) rfl) ?_
            show Run _ _ _ _ _ _ _ _ _ _ _ _ T134 (mkF m 198 #[.val (.int x0), .val (.int x1), .val (.int x2), .val (.int len), .val (.int (3 : Int32)), .val (.int c0), .val (.int c1), .val (.int c2), .val (.ref x123), .unset] [(.int c2)])
            refine Run.callS X134 (y := (⟨"com/example/shelfwright/shelfwright/catalog/TextsIsUnicodePinLaw", "sur", "(C)Z"⟩ : MethodName)) (W := 0) (con_su l hw X134.old) (wd hw 7 rfl) (wd hw 8 rfl) (wd hw 3 rfl) (wd hw 9 rfl) (by decide) pd__C_Z rfl (argsL := [(.int c2)]) (rest := []) rfl (Nat.le_of_ble_eq_true rfl) rfl at_198 (by decide) (by decide) (Nat.le_of_ble_eq_true rfl) (Nat.le_of_ble_eq_true rfl) (nofun) (nofun) ?_
            intro v135 T135 h135 L135 q135 X135 XF135 K135
            obtain ⟨rfl, rfl⟩ := q135
            show Run _ _ _ _ _ _ _ _ _ _ _ _ T135 (mkF m 201 #[.val (.int x0), .val (.int x1), .val (.int x2), .val (.int len), .val (.int (3 : Int32)), .val (.int c0), .val (.int c1), .val (.int c2), .val (.ref x123), .unset] [(.int (surV c2))])
            by_cases q4 : (surV c2) = (0 : Int32)
            ·
              refine Run.via (fun _ => XS.ifNo X135.at X135.ex rfl (X135.de at_201) rfl ((if0 _ _).trans (teq q4).2)) ?_
              show Run _ _ _ _ _ _ _ _ _ _ _ _ T135 (mkF m 204 #[.val (.int x0), .val (.int x1), .val (.int x2), .val (.int len), .val (.int (3 : Int32)), .val (.int c0), .val (.int c1), .val (.int c2), .val (.ref x123), .unset] [])
              refine Run.via (fun _ => XS.iconst X135.at X135.ex rfl (X135.de at_204)) ?_
              show Run _ _ _ _ _ _ _ _ _ _ _ _ T135 (mkF m 205 #[.val (.int x0), .val (.int x1), .val (.int x2), .val (.int len), .val (.int (3 : Int32)), .val (.int c0), .val (.int c1), .val (.int c2), .val (.ref x123), .unset] [(.int (1 : Int32))])
              refine Run.via (fun _ => XS.goto X135.at X135.ex rfl (pc0 := 205) (pc' := 209) rfl (X135.de at_205) (by decide) (by decide)) ?_
              show Run _ _ _ _ _ _ _ _ _ _ _ _ T135 (mkF m 209 #[.val (.int x0), .val (.int x1), .val (.int x2), .val (.int len), .val (.int (3 : Int32)), .val (.int c0), .val (.int c1), .val (.int c2), .val (.ref x123), .unset] [(.int (1 : Int32))])
              refine Run.via (fun _ => XS.istore X135.at X135.ex rfl (X135.de at_209) rfl (l' := #[.val (.int x0), .val (.int x1), .val (.int x2), .val (.int len), .val (.int (3 : Int32)), .val (.int c0), .val (.int c1), .val (.int c2), .val (.ref x123), .val (.int (1 : Int32))]) rfl) ?_
              show Run _ _ _ _ _ _ _ _ _ _ _ _ T135 (mkF m 211 #[.val (.int x0), .val (.int x1), .val (.int x2), .val (.int len), .val (.int (3 : Int32)), .val (.int c0), .val (.int c1), .val (.int c2), .val (.ref x123), .val (.int (1 : Int32))] [])
              exact J _ _ _ X135 (by rw [uni3]; simp [q0, q1, q2, q3, q4])
            ·
              refine Run.via (fun _ => XS.ifYes X135.at X135.ex rfl (pc0 := 201) (pc' := 208) rfl (X135.de at_201) rfl ((if0 _ _).trans (feq q4).2) (by decide) (by decide)) ?_
              show Run _ _ _ _ _ _ _ _ _ _ _ _ T135 (mkF m 208 #[.val (.int x0), .val (.int x1), .val (.int x2), .val (.int len), .val (.int (3 : Int32)), .val (.int c0), .val (.int c1), .val (.int c2), .val (.ref x123), .unset] [])
              refine Run.via (fun _ => XS.iconst X135.at X135.ex rfl (X135.de at_208)) ?_
              show Run _ _ _ _ _ _ _ _ _ _ _ _ T135 (mkF m 209 #[.val (.int x0), .val (.int x1), .val (.int x2), .val (.int len), .val (.int (3 : Int32)), .val (.int c0), .val (.int c1), .val (.int c2), .val (.ref x123), .unset] [(.int (0 : Int32))])
              refine Run.via (fun _ => XS.istore X135.at X135.ex rfl (X135.de at_209) rfl (l' := #[.val (.int x0), .val (.int x1), .val (.int x2), .val (.int len), .val (.int (3 : Int32)), .val (.int c0), .val (.int c1), .val (.int c2), .val (.ref x123), .val (.int (0 : Int32))]) rfl) ?_
              show Run _ _ _ _ _ _ _ _ _ _ _ _ T135 (mkF m 211 #[.val (.int x0), .val (.int x1), .val (.int x2), .val (.int len), .val (.int (3 : Int32)), .val (.int c0), .val (.int c1), .val (.int c2), .val (.ref x123), .val (.int (0 : Int32))] [])
              exact J _ _ _ X135 (by rw [uni3]; simp [q0, q1, q2, q3, q4])
          ·
            refine Run.via (fun _ => XS.ifYes X134.at X134.ex rfl (pc0 := 193) (pc' := 208) rfl (X134.de at_193) rfl ((if0 _ _).trans (feq q3).2) (by decide) (by decide)) ?_
            show Run _ _ _ _ _ _ _ _ _ _ _ _ T134 (mkF m 208 #[.val (.int x0), .val (.int x1), .val (.int x2), .val (.int len), .val (.int (3 : Int32)), .val (.int c0), .val (.int c1), .val (.int c2), .val (.ref x123), .unset] [])
            refine Run.via (fun _ => XS.iconst X134.at X134.ex rfl (X134.de at_208)) ?_
            show Run _ _ _ _ _ _ _ _ _ _ _ _ T134 (mkF m 209 #[.val (.int x0), .val (.int x1), .val (.int x2), .val (.int len), .val (.int (3 : Int32)), .val (.int c0), .val (.int c1), .val (.int c2), .val (.ref x123), .unset] [(.int (0 : Int32))])
            refine Run.via (fun _ => XS.istore X134.at X134.ex rfl (X134.de at_209) rfl (l' := #[.val (.int x0), .val (.int x1), .val (.int x2), .val (.int len), .val (.int (3 : Int32)), .val (.int c0), .val (.int c1), .val (.int c2), .val (.ref x123), .val (.int (0 : Int32))]) rfl) ?_
            show Run _ _ _ _ _ _ _ _ _ _ _ _ T134 (mkF m 211 #[.val (.int x0), .val (.int x1), .val (.int x2), .val (.int len), .val (.int (3 : Int32)), .val (.int c0), .val (.int c1), .val (.int c2), .val (.ref x123), .val (.int (0 : Int32))] [])
            exact J _ _ _ X134 (by rw [uni3]; simp [q0, q1, q2, q3])
        ·
          refine Run.via (fun _ => XS.ifYes X132.at X132.ex rfl (pc0 := 177) (pc' := 204) rfl (X132.de at_177) rfl ((if0 _ _).trans (feq q2).2) (by decide) (by decide)) ?_
          show Run _ _ _ _ _ _ _ _ _ _ _ _ T132 (mkF m 204 #[.val (.int x0), .val (.int x1), .val (.int x2), .val (.int len), .val (.int (3 : Int32)), .val (.int c0), .val (.int c1), .val (.int c2), .val (.ref x123), .unset] [])
          refine Run.via (fun _ => XS.iconst X132.at X132.ex rfl (X132.de at_204)) ?_
          show Run _ _ _ _ _ _ _ _ _ _ _ _ T132 (mkF m 205 #[.val (.int x0), .val (.int x1), .val (.int x2), .val (.int len), .val (.int (3 : Int32)), .val (.int c0), .val (.int c1), .val (.int c2), .val (.ref x123), .unset] [(.int (1 : Int32))])
          refine Run.via (fun _ => XS.goto X132.at X132.ex rfl (pc0 := 205) (pc' := 209) rfl (X132.de at_205) (by decide) (by decide)) ?_
          show Run _ _ _ _ _ _ _ _ _ _ _ _ T132 (mkF m 209 #[.val (.int x0), .val (.int x1), .val (.int x2), .val (.int len), .val (.int (3 : Int32)), .val (.int c0), .val (.int c1), .val (.int c2), .val (.ref x123), .unset] [(.int (1 : Int32))])
          refine Run.via (fun _ => XS.istore X132.at X132.ex rfl (X132.de at_209) rfl (l' := #[.val (.int x0), .val (.int x1), .val (.int x2), .val (.int len), .val (.int (3 : Int32)), .val (.int c0), .val (.int c1), .val (.int c2), .val (.ref x123), .val (.int (1 : Int32))]) rfl) ?_
          show Run _ _ _ _ _ _ _ _ _ _ _ _ T132 (mkF m 211 #[.val (.int x0), .val (.int x1), .val (.int x2), .val (.int len), .val (.int (3 : Int32)), .val (.int c0), .val (.int c1), .val (.int c2), .val (.ref x123), .val (.int (1 : Int32))] [])
          exact J _ _ _ X132 (by rw [uni3]; simp [q0, q1, q2, (pair_sur q2).1, (pair_sur q2).2])
      ·
        refine Run.via (fun _ => XS.ifYes X131.at X131.ex rfl (pc0 := 167) (pc' := 180) rfl (X131.de at_167) rfl ((if0 _ _).trans (feq q1).2) (by decide) (by decide)) ?_
        show Run _ _ _ _ _ _ _ _ _ _ _ _ T131 (mkF m 180 #[.val (.int x0), .val (.int x1), .val (.int x2), .val (.int len), .val (.int (3 : Int32)), .val (.int c0), .val (.int c1), .val (.int c2), .val (.ref x123), .unset] [])
        refine Run.via (fun _ => XS.iload X131.at X131.ex rfl (X131.de at_180) rfl) ?_
        show Run _ _ _ _ _ _ _ _ _ _ _ _ T131 (mkF m 182 #[.val (.int x0), .val (.int x1), .val (.int x2), .val (.int len), .val (.int (3 : Int32)), .val (.int c0), .val (.int c1), .val (.int c2), .val (.ref x123), .unset] [(.int c0)])
        refine Run.callS X131 (y := (⟨"com/example/shelfwright/shelfwright/catalog/TextsIsUnicodePinLaw", "sur", "(C)Z"⟩ : MethodName)) (W := 0) (con_su l hw X131.old) (wd hw 7 rfl) (wd hw 8 rfl) (wd hw 3 rfl) (wd hw 9 rfl) (by decide) pd__C_Z rfl (argsL := [(.int c0)]) (rest := []) rfl (Nat.le_of_ble_eq_true rfl) rfl at_182 (by decide) (by decide) (Nat.le_of_ble_eq_true rfl) (Nat.le_of_ble_eq_true rfl) (nofun) (nofun) ?_
        intro v136 T136 h136 L136 q136 X136 XF136 K136
        obtain ⟨rfl, rfl⟩ := q136
        show Run _ _ _ _ _ _ _ _ _ _ _ _ T136 (mkF m 185 #[.val (.int x0), .val (.int x1), .val (.int x2), .val (.int len), .val (.int (3 : Int32)), .val (.int c0), .val (.int c1), .val (.int c2), .val (.ref x123), .unset] [(.int (surV c0))])
        refine Run.via (fun _ => XS.ifYes X136.at X136.ex rfl (pc0 := 185) (pc' := 208) rfl (X136.de at_185) rfl ((if0 _ _).trans (feq q1).2) (by decide) (by decide)) ?_
        show Run _ _ _ _ _ _ _ _ _ _ _ _ T136 (mkF m 208 #[.val (.int x0), .val (.int x1), .val (.int x2), .val (.int len), .val (.int (3 : Int32)), .val (.int c0), .val (.int c1), .val (.int c2), .val (.ref x123), .unset] [])
        refine Run.via (fun _ => XS.iconst X136.at X136.ex rfl (X136.de at_208)) ?_
        show Run _ _ _ _ _ _ _ _ _ _ _ _ T136 (mkF m 209 #[.val (.int x0), .val (.int x1), .val (.int x2), .val (.int len), .val (.int (3 : Int32)), .val (.int c0), .val (.int c1), .val (.int c2), .val (.ref x123), .unset] [(.int (0 : Int32))])
        refine Run.via (fun _ => XS.istore X136.at X136.ex rfl (X136.de at_209) rfl (l' := #[.val (.int x0), .val (.int x1), .val (.int x2), .val (.int len), .val (.int (3 : Int32)), .val (.int c0), .val (.int c1), .val (.int c2), .val (.ref x123), .val (.int (0 : Int32))]) rfl) ?_
        show Run _ _ _ _ _ _ _ _ _ _ _ _ T136 (mkF m 211 #[.val (.int x0), .val (.int x1), .val (.int x2), .val (.int len), .val (.int (3 : Int32)), .val (.int c0), .val (.int c1), .val (.int c2), .val (.ref x123), .val (.int (0 : Int32))] [])
        exact J _ _ _ X136 (by rw [uni3]; simp [q0, q1])
    ·
      refine Run.via (fun _ => XS.ifNo X130.at X130.ex rfl (X130.de at_151) rfl ((if0 _ _).trans (feq q0).1)) ?_
      show Run _ _ _ _ _ _ _ _ _ _ _ _ T130 (mkF m 154 #[.val (.int x0), .val (.int x1), .val (.int x2), .val (.int len), .val (.int (3 : Int32)), .val (.int c0), .val (.int c1), .val (.int c2), .val (.ref x123), .unset] [])
      refine Run.via (fun _ => XS.iload X130.at X130.ex rfl (X130.de at_154) rfl) ?_
      show Run _ _ _ _ _ _ _ _ _ _ _ _ T130 (mkF m 156 #[.val (.int x0), .val (.int x1), .val (.int x2), .val (.int len), .val (.int (3 : Int32)), .val (.int c0), .val (.int c1), .val (.int c2), .val (.ref x123), .unset] [(.int c2)])
      refine Run.callS X130 (y := (⟨"com/example/shelfwright/shelfwright/catalog/TextsIsUnicodePinLaw", "sur", "(C)Z"⟩ : MethodName)) (W := 0) (con_su l hw X130.old) (wd hw 7 rfl) (wd hw 8 rfl) (wd hw 3 rfl) (wd hw 9 rfl) (by decide) pd__C_Z rfl (argsL := [(.int c2)]) (rest := []) rfl (Nat.le_of_ble_eq_true rfl) rfl at_156 (by decide) (by decide) (Nat.le_of_ble_eq_true rfl) (Nat.le_of_ble_eq_true rfl) (nofun) (nofun) ?_
      intro v137 T137 h137 L137 q137 X137 XF137 K137
      obtain ⟨rfl, rfl⟩ := q137
      show Run _ _ _ _ _ _ _ _ _ _ _ _ T137 (mkF m 159 #[.val (.int x0), .val (.int x1), .val (.int x2), .val (.int len), .val (.int (3 : Int32)), .val (.int c0), .val (.int c1), .val (.int c2), .val (.ref x123), .unset] [(.int (surV c2))])
      by_cases q3 : (surV c2) = (0 : Int32)
      ·
        refine Run.via (fun _ => XS.ifYes X137.at X137.ex rfl (pc0 := 159) (pc' := 204) rfl (X137.de at_159) rfl ((if0 _ _).trans (teq q3).1) (by decide) (by decide)) ?_
        show Run _ _ _ _ _ _ _ _ _ _ _ _ T137 (mkF m 204 #[.val (.int x0), .val (.int x1), .val (.int x2), .val (.int len), .val (.int (3 : Int32)), .val (.int c0), .val (.int c1), .val (.int c2), .val (.ref x123), .unset] [])
        refine Run.via (fun _ => XS.iconst X137.at X137.ex rfl (X137.de at_204)) ?_
        show Run _ _ _ _ _ _ _ _ _ _ _ _ T137 (mkF m 205 #[.val (.int x0), .val (.int x1), .val (.int x2), .val (.int len), .val (.int (3 : Int32)), .val (.int c0), .val (.int c1), .val (.int c2), .val (.ref x123), .unset] [(.int (1 : Int32))])
        refine Run.via (fun _ => XS.goto X137.at X137.ex rfl (pc0 := 205) (pc' := 209) rfl (X137.de at_205) (by decide) (by decide)) ?_
        show Run _ _ _ _ _ _ _ _ _ _ _ _ T137 (mkF m 209 #[.val (.int x0), .val (.int x1), .val (.int x2), .val (.int len), .val (.int (3 : Int32)), .val (.int c0), .val (.int c1), .val (.int c2), .val (.ref x123), .unset] [(.int (1 : Int32))])
        refine Run.via (fun _ => XS.istore X137.at X137.ex rfl (X137.de at_209) rfl (l' := #[.val (.int x0), .val (.int x1), .val (.int x2), .val (.int len), .val (.int (3 : Int32)), .val (.int c0), .val (.int c1), .val (.int c2), .val (.ref x123), .val (.int (1 : Int32))]) rfl) ?_
        show Run _ _ _ _ _ _ _ _ _ _ _ _ T137 (mkF m 211 #[.val (.int x0), .val (.int x1), .val (.int x2), .val (.int len), .val (.int (3 : Int32)), .val (.int c0), .val (.int c1), .val (.int c2), .val (.ref x123), .val (.int (1 : Int32))] [])
        exact J _ _ _ X137 (by rw [uni3]; simp [q0, (pair_sur q0).1, (pair_sur q0).2, q3])
      ·
        refine Run.via (fun _ => XS.ifNo X137.at X137.ex rfl (X137.de at_159) rfl ((if0 _ _).trans (feq q3).1)) ?_
        show Run _ _ _ _ _ _ _ _ _ _ _ _ T137 (mkF m 162 #[.val (.int x0), .val (.int x1), .val (.int x2), .val (.int len), .val (.int (3 : Int32)), .val (.int c0), .val (.int c1), .val (.int c2), .val (.ref x123), .unset] [])
        refine Run.via (fun _ => XS.iload X137.at X137.ex rfl (X137.de at_162) rfl) ?_
        show Run _ _ _ _ _ _ _ _ _ _ _ _ T137 (mkF m 164 #[.val (.int x0), .val (.int x1), .val (.int x2), .val (.int len), .val (.int (3 : Int32)), .val (.int c0), .val (.int c1), .val (.int c2), .val (.ref x123), .unset] [(.int c0)])
        refine Run.callS X137 (y := (⟨"com/example/shelfwright/shelfwright/catalog/TextsIsUnicodePinLaw", "sur", "(C)Z"⟩ : MethodName)) (W := 0) (con_su l hw X137.old) (wd hw 7 rfl) (wd hw 8 rfl) (wd hw 3 rfl) (wd hw 9 rfl) (by decide) pd__C_Z rfl (argsL := [(.int c0)]) (rest := []) rfl (Nat.le_of_ble_eq_true rfl) rfl at_164 (by decide) (by decide) (Nat.le_of_ble_eq_true rfl) (Nat.le_of_ble_eq_true rfl) (nofun) (nofun) ?_
        intro v138 T138 h138 L138 q138 X138 XF138 K138
        obtain ⟨rfl, rfl⟩ := q138
        show Run _ _ _ _ _ _ _ _ _ _ _ _ T138 (mkF m 167 #[.val (.int x0), .val (.int x1), .val (.int x2), .val (.int len), .val (.int (3 : Int32)), .val (.int c0), .val (.int c1), .val (.int c2), .val (.ref x123), .unset] [(.int (surV c0))])
        refine Run.via (fun _ => XS.ifYes X138.at X138.ex rfl (pc0 := 167) (pc' := 180) rfl (X138.de at_167) rfl ((if0 _ _).trans (feq (pair_sur q0).1).2) (by decide) (by decide)) ?_
        show Run _ _ _ _ _ _ _ _ _ _ _ _ T138 (mkF m 180 #[.val (.int x0), .val (.int x1), .val (.int x2), .val (.int len), .val (.int (3 : Int32)), .val (.int c0), .val (.int c1), .val (.int c2), .val (.ref x123), .unset] [])
        refine Run.via (fun _ => XS.iload X138.at X138.ex rfl (X138.de at_180) rfl) ?_
        show Run _ _ _ _ _ _ _ _ _ _ _ _ T138 (mkF m 182 #[.val (.int x0), .val (.int x1), .val (.int x2), .val (.int len), .val (.int (3 : Int32)), .val (.int c0), .val (.int c1), .val (.int c2), .val (.ref x123), .unset] [(.int c0)])
        refine Run.callS X138 (y := (⟨"com/example/shelfwright/shelfwright/catalog/TextsIsUnicodePinLaw", "sur", "(C)Z"⟩ : MethodName)) (W := 0) (con_su l hw X138.old) (wd hw 7 rfl) (wd hw 8 rfl) (wd hw 3 rfl) (wd hw 9 rfl) (by decide) pd__C_Z rfl (argsL := [(.int c0)]) (rest := []) rfl (Nat.le_of_ble_eq_true rfl) rfl at_182 (by decide) (by decide) (Nat.le_of_ble_eq_true rfl) (Nat.le_of_ble_eq_true rfl) (nofun) (nofun) ?_
        intro v139 T139 h139 L139 q139 X139 XF139 K139
        obtain ⟨rfl, rfl⟩ := q139
        show Run _ _ _ _ _ _ _ _ _ _ _ _ T139 (mkF m 185 #[.val (.int x0), .val (.int x1), .val (.int x2), .val (.int len), .val (.int (3 : Int32)), .val (.int c0), .val (.int c1), .val (.int c2), .val (.ref x123), .unset] [(.int (surV c0))])
        refine Run.via (fun _ => XS.ifYes X139.at X139.ex rfl (pc0 := 185) (pc' := 208) rfl (X139.de at_185) rfl ((if0 _ _).trans (feq (pair_sur q0).1).2) (by decide) (by decide)) ?_
        show Run _ _ _ _ _ _ _ _ _ _ _ _ T139 (mkF m 208 #[.val (.int x0), .val (.int x1), .val (.int x2), .val (.int len), .val (.int (3 : Int32)), .val (.int c0), .val (.int c1), .val (.int c2), .val (.ref x123), .unset] [])
        refine Run.via (fun _ => XS.iconst X139.at X139.ex rfl (X139.de at_208)) ?_
        show Run _ _ _ _ _ _ _ _ _ _ _ _ T139 (mkF m 209 #[.val (.int x0), .val (.int x1), .val (.int x2), .val (.int len), .val (.int (3 : Int32)), .val (.int c0), .val (.int c1), .val (.int c2), .val (.ref x123), .unset] [(.int (0 : Int32))])
        refine Run.via (fun _ => XS.istore X139.at X139.ex rfl (X139.de at_209) rfl (l' := #[.val (.int x0), .val (.int x1), .val (.int x2), .val (.int len), .val (.int (3 : Int32)), .val (.int c0), .val (.int c1), .val (.int c2), .val (.ref x123), .val (.int (0 : Int32))]) rfl) ?_
        show Run _ _ _ _ _ _ _ _ _ _ _ _ T139 (mkF m 211 #[.val (.int x0), .val (.int x1), .val (.int x2), .val (.int len), .val (.int (3 : Int32)), .val (.int c0), .val (.int c1), .val (.int c2), .val (.ref x123), .val (.int (0 : Int32))] [])
        exact J _ _ _ X139 (by rw [uni3]; simp [q0, (pair_sur q0).1, (pair_sur q0).2, q3])
-- part comes
set_option maxRecDepth 65536 in
set_option maxHeartbeats 40000000 in
theorem comes_1 {Post : Tables → Env → Array Value → State → Outcome → State → Prop} (hpost : ∀ tb e args s v u, (limb_1_1.after args s (.returned v) u = true ∧ limb_1_2.after args s (.returned v) u = true ∧ True) → ReturnedEndW s (.returned v) u (Jvm.fieldLocs frame_1_writes args s ++ Jvm.arrayLocs frame_1_arrays args s ++ Jvm.staticLocs frame_1_statics s) 24 1152 → Post tb e args s (.returned v) u) :
    ArmFor flags0 classFile x code maxLocals ret World_1 tables_1 room_1 Calls_1 rest_1 Pre_1 Post := by
  intro l hfl _ _ p e ha hc hk s m args below hf hA hF happ hP
  obtain ⟨hcalls, hrest, hpre⟩ := hP
  obtain ⟨-, -, -, hnamed, -, -, -, hat⟩ := (Spec.applies_iff hf).mp happ
  obtain ⟨hg, hn⟩ := and_e (Cond.before_iff.mp (show (Jvm.Cond.and given_1 narrow_1).before args s = true from hpre))
  obtain ⟨hcount, hg0⟩ := and_e hg
  obtain ⟨ga0, hg1⟩ := and_e hg0
  obtain ⟨ga1, hg2⟩ := and_e hg1
  obtain ⟨ga2, hg3⟩ := and_e hg2
  have ga3 := hg3
  obtain ⟨w0, w1, w2, w3, rfl⟩ : ∃ w0 w1 w2 w3 : Value, args = #[w0, w1, w2, w3] := by
    have hs : args.size = 4 := by simpa [Cond.value, given_1] using hcount
    obtain ⟨L⟩ := args
    match L, hs with
    | [w0, w1, w2, w3], _ => exact ⟨w0, w1, w2, w3, rfl⟩
  have hw := fun d (hd : d ∈ tables_1) => atoms_spec (ws := Jvm.Cond.code x code maxLocals ret :: tables_1) hat d (List.mem_cons_of_mem _ hd)
  obtain ⟨i0, ei0⟩ := is_v ga0
  obtain rfl : w0 = (.int i0) := Option.some.inj ei0
  obtain ⟨i1, ei1⟩ := is_v ga1
  obtain rfl : w1 = (.int i1) := Option.some.inj ei1
  obtain ⟨i2, ei2⟩ := is_v ga2
  obtain rfl : w2 = (.int i2) := Option.some.inj ei2
  obtain ⟨i3, ei3⟩ := is_v ga3
  obtain rfl : w3 = (.int i3) := Option.some.inj ei3
  obtain ⟨hsets, hown0⟩ := atoms_of _ (rest_1_c_eq ▸ (show rest_1_c.before _ s = true from hrest))
  have hS : Sets s := setsOf hsets
  have hEW : EW s _ consts_1 := (EW.cons (wd hw 137 rfl) (by decide) EW.nil)
  have hCH : CHv s consts_1 s.vm s.heap := CHv.start hEW (fun p hp => hcalls.1 p hp) (hsets _ (List.mem_of_getElem? (i := 2) rfl)) (wd hw 32 rfl) (wd hw 15 rfl)
  obtain ⟨n, o, h1, h2, h3, _, L, rfl, ⟨N, -, rfl⟩, -, hq, hnw, -⟩ := con_law l hw hS (setsOf16 hsets) rfl (by decide) (x0 := i0) (x1 := i1) (x2 := i2) (len := i3) (h0 := s.heap) ⟨Nat.le_refl _, fun _ _ q => q⟩ hEW tables_1 p e ha hc hk s m _ below hf ((Spec.applies_iff_loose hf).mp happ).1 ⟨rfl, State.Warmed39.refl s, rfl, hCH, nofun⟩ trivial
  refine ⟨n, _, h1, h2, h3, hpost _ _ _ _ _ _ ⟨Cond.after_iff.mpr rfl, Cond.after_iff.mpr (eq_i res_at (Term.int_eval (1)) rfl), trivial⟩ ⟨hq.1, hq.2.1, hq.2.2.1, (hq.2.2.2.sift fun y hy => Or.inr (N y hy)).mono (by decide) (by decide)⟩⟩
theorem main_1_1 : Claimed_1_1 := comes_1 fun _ _ _ _ _ _ h hF => ⟨h.1, hF⟩
theorem main_1_2 : Claimed_1_2 := comes_1 fun _ _ _ _ _ _ h hF => ⟨h.2.1, hF⟩
end Jvm.Pilot.@@N@@
-- part witness
namespace Jvm.Pilot.@@N@@
open Jvm Jvm.ClassFile Sem Op Lib Jvm.Free Jvm.Stand Jvm.Pilot.@@N@@.Jvm.D
/-! MADE BY PROGRAM (witnessworld.py) out of the Statement's table words and the real class files: 21 classes; the members and pool entries that the words name. The judged class is class 1, her method 6. -/
namespace start1
open Jvm.ClassFile
def u (s : String) : CpInfo := .utf8 (stringToUtf16 s)
/-- a pool by its gaps: so many unusable entries, then the entry; so many at the end -/
def gap : Nat → List CpInfo → List CpInfo
  | 0, r => r
  | n + 1, r => .unusable :: gap n r
def poolList (es : List (Nat × CpInfo)) (last : Nat) : List CpInfo := es.foldr (fun e r => gap e.1 (e.2 :: r)) (gap last [])
def pool (es : List (Nat × CpInfo)) (last : Nat) : Array CpInfo := ⟨poolList es last⟩
def fileOf (pool : Array CpInfo) (this : Nat) (attrs : Array Attribute := #[]) (ms : Array MethodInfo := #[]) (fl : Nat := 33) (sup : Nat := 0) (ifs : Array Nat := #[]) (fds : Array FieldInfo := #[]) : ClassFile where
  minorVersion := 0
  majorVersion := 65
  constantPool := pool
  accessFlags := fl
  thisClass := this
  superClass := sup
  interfaces := ifs
  fields := fds
  methods := ms
  attributes := attrs
def plain (name : String) (sup : Option ClassId) : Class where
  name := name
  kind := .ordinary
  loader := none
  accessFlags := 33
  super := sup
  interfaces := #[]
  cf := none
  fields := #[]
  methods := #[]
  instanceTypes := #[]
  staticTypes := #[]
  resolved := #[]
  callSites := []
  init := .initialized
  statics := none
  mirror := none

def pool0 : Array CpInfo := pool [(5, u "<init>"), (0, u "()V"), (1, .class_ 10), (1, u "java/lang/Object")] 113

def k0c0 : Code := { maxStack := 0, maxLocals := 1, code := object_method_1_code, exceptionTable := #[], attributes := #[] }
def k0m0 : Method := { name := "<init>", desc := "()V", sig := { parameters := [], returnType := none }, accessFlags := 1, code := some k0c0 }
/-- java/lang/Object -/
def k0 : Class := { plain "java/lang/Object" none with
  accessFlags := 33
  interfaces := #[]
  cf := some (fileOf pool0 8 #[] #[{ accessFlags := 1, nameIndex := 5, descriptorIndex := 6, attributes := #[] }] 33 0 #[] #[])
  fields := #[]
  methods := #[k0m0]
  instanceTypes := #[]
  staticTypes := #[]
  resolved := Array.replicate 124 none
  statics := none }

def pool1 : Array CpInfo := pool [(2, .class_ 4), (1, u "java/lang/Object"), (0, u "<init>"), (0, u "()V"), (0, .integer 55296), (0, .integer 56320), (0, .integer 56319), (0, .integer 57343), (0, .methodref 12 13), (0, .class_ 14), (0, .nameAndType 15 16), (0, u "com/example/shelfwright/shelfwright/catalog/TextsIsUnicodePinLaw"), (0, u "high"), (0, u "(C)Z"), (0, .methodref 12 18), (0, .nameAndType 19 16), (0, u "low"), (0, .integer 2147483647), (0, .methodref 12 22), (0, .nameAndType 23 24), (0, u "mk"), (0, u "(I)C"), (0, .methodref 12 26), (0, .nameAndType 27 16), (0, u "sur"), (0, .methodref 12 29), (0, .nameAndType 30 31), (0, u "pair"), (0, u "(CC)Z"), (0, .class_ 33), (0, u "java/lang/String"), (0, .methodref 32 35), (0, .nameAndType 5 36), (0, u "([C)V"), (0, .methodref 38 39), (0, .class_ 40), (0, .nameAndType 41 42), (0, u "com/example/shelfwright/shelfwright/catalog/Texts"), (0, u "isUnicode"), (0, u "(Ljava/lang/String;)Z"), (3, u "law"), (0, u "(IIII)Z")] 4

def k1m0 : Method := { name := "<init>", desc := "()V", sig := { parameters := [], returnType := none }, accessFlags := 2, code := none }
def k1c1 : Code := { maxStack := 3, maxLocals := 3, code := method_2_code, exceptionTable := #[], attributes := #[] }
def k1m1 : Method := { name := "mk", desc := "(I)C", sig := { parameters := [.int], returnType := some .char }, accessFlags := 10, code := some k1c1 }
def k1c2 : Code := { maxStack := 2, maxLocals := 1, code := method_3_code, exceptionTable := #[], attributes := #[] }
def k1m2 : Method := { name := "high", desc := "(C)Z", sig := { parameters := [.char], returnType := some .boolean }, accessFlags := 10, code := some k1c2 }
def k1c3 : Code := { maxStack := 2, maxLocals := 1, code := method_4_code, exceptionTable := #[], attributes := #[] }
def k1m3 : Method := { name := "low", desc := "(C)Z", sig := { parameters := [.char], returnType := some .boolean }, accessFlags := 10, code := some k1c3 }
def k1c4 : Code := { maxStack := 1, maxLocals := 1, code := method_5_code, exceptionTable := #[], attributes := #[] }
def k1m4 : Method := { name := "sur", desc := "(C)Z", sig := { parameters := [.char], returnType := some .boolean }, accessFlags := 10, code := some k1c4 }
def k1c5 : Code := { maxStack := 1, maxLocals := 2, code := method_6_code, exceptionTable := #[], attributes := #[] }
def k1m5 : Method := { name := "pair", desc := "(CC)Z", sig := { parameters := [.char, .char], returnType := some .boolean }, accessFlags := 10, code := some k1c5 }
def k1c6 : Code := { maxStack := 3, maxLocals := 10, code := code, exceptionTable := #[], attributes := #[] }
def k1m6 : Method := { name := "law", desc := "(IIII)Z", sig := { parameters := [.int, .int, .int, .int], returnType := some .boolean }, accessFlags := 9, code := some k1c6 }
/-- com/example/shelfwright/shelfwright/catalog/TextsIsUnicodePinLaw -/
def k1 : Class := { plain "com/example/shelfwright/shelfwright/catalog/TextsIsUnicodePinLaw" (some 0) with
  accessFlags := 49
  interfaces := #[]
  cf := some (fileOf pool1 12 #[] #[{ accessFlags := 2, nameIndex := 5, descriptorIndex := 6, attributes := #[] }, { accessFlags := 10, nameIndex := 23, descriptorIndex := 24, attributes := #[] }, { accessFlags := 10, nameIndex := 15, descriptorIndex := 16, attributes := #[] }, { accessFlags := 10, nameIndex := 19, descriptorIndex := 16, attributes := #[] }, { accessFlags := 10, nameIndex := 27, descriptorIndex := 16, attributes := #[] }, { accessFlags := 10, nameIndex := 30, descriptorIndex := 31, attributes := #[] }, { accessFlags := 9, nameIndex := 46, descriptorIndex := 47, attributes := #[] }] 49 2 #[] #[])
  fields := #[]
  methods := #[k1m0, k1m1, k1m2, k1m3, k1m4, k1m5, k1m6]
  instanceTypes := #[]
  staticTypes := #[]
  resolved := Array.replicate 52 none
  statics := none }

def pool2 : Array CpInfo := pool [(1, .class_ 2), (0, u "java/io/Serializable"), (0, .class_ 4), (0, u "java/lang/Object")] 2

/-- java/io/Serializable -/
def k2 : Class := { plain "java/io/Serializable" (some 0) with
  accessFlags := 1537
  interfaces := #[]
  cf := some (fileOf pool2 1 #[] #[] 1537 3 #[] #[])
  fields := #[]
  methods := #[]
  instanceTypes := #[]
  staticTypes := #[]
  resolved := Array.replicate 7 none
  statics := none }

def pool3 : Array CpInfo := pool [(1, .class_ 2), (0, u "java/lang/Comparable"), (0, .class_ 4), (0, u "java/lang/Object")] 7

/-- java/lang/Comparable -/
def k3 : Class := { plain "java/lang/Comparable" (some 0) with
  accessFlags := 1537
  interfaces := #[]
  cf := some (fileOf pool3 1 #[] #[] 1537 3 #[] #[])
  fields := #[]
  methods := #[]
  instanceTypes := #[]
  staticTypes := #[]
  resolved := Array.replicate 12 none
  statics := none }

def pool4 : Array CpInfo := pool [(2, .class_ 4), (1, u "java/lang/CharSequence"), (0, u "length"), (0, u "()I"), (38, u "charAt"), (0, u "(I)C"), (0, .class_ 48), (0, u "java/lang/CharSequence$1CodePointIterator"), (10, .class_ 60), (0, u "java/lang/CharSequence$1CharIterator"), (5, .class_ 67), (0, u "java/lang/Object")] 63

def k4m0 : Method := { name := "length", desc := "()I", sig := { parameters := [], returnType := some .int }, accessFlags := 1025, code := none }
def k4m1 : Method := { name := "charAt", desc := "(I)C", sig := { parameters := [.int], returnType := some .char }, accessFlags := 1025, code := none }
/-- java/lang/CharSequence -/
def k4 : Class := { plain "java/lang/CharSequence" (some 0) with
  accessFlags := 1537
  interfaces := #[]
  cf := some (fileOf pool4 2 #[.nestMembers #[47, 59]] #[{ accessFlags := 1025, nameIndex := 5, descriptorIndex := 6, attributes := #[] }, { accessFlags := 1025, nameIndex := 45, descriptorIndex := 46, attributes := #[] }] 1537 66 #[] #[])
  fields := #[]
  methods := #[k4m0, k4m1]
  instanceTypes := #[]
  staticTypes := #[]
  resolved := Array.replicate 131 none
  statics := none }

def pool5 : Array CpInfo := pool [(1, .class_ 2), (0, u "java/lang/constant/Constable"), (0, .class_ 4), (0, u "java/lang/Object")] 6

/-- java/lang/constant/Constable -/
def k5 : Class := { plain "java/lang/constant/Constable" (some 0) with
  accessFlags := 1537
  interfaces := #[]
  cf := some (fileOf pool5 1 #[] #[] 1537 3 #[] #[])
  fields := #[]
  methods := #[]
  instanceTypes := #[]
  staticTypes := #[]
  resolved := Array.replicate 11 none
  statics := none }

def pool6 : Array CpInfo := pool [(1, .class_ 2), (0, u "java/lang/constant/ConstantDesc"), (0, .class_ 4), (0, u "java/lang/Object")] 32

/-- java/lang/constant/ConstantDesc -/
def k6 : Class := { plain "java/lang/constant/ConstantDesc" (some 0) with
  accessFlags := 1537
  interfaces := #[]
  cf := some (fileOf pool6 1 #[] #[] 1537 3 #[] #[])
  fields := #[]
  methods := #[]
  instanceTypes := #[]
  staticTypes := #[]
  resolved := Array.replicate 37 none
  statics := none }

def pool7 : Array CpInfo := pool [(1, .methodref 2 3), (0, .class_ 4), (0, .nameAndType 5 6), (0, u "java/lang/Object"), (0, u "<init>"), (0, u "()V"), (0, .string 8), (0, u ""), (0, .fieldref 10 11), (0, .class_ 12), (0, .nameAndType 13 14), (0, u "java/lang/String"), (0, u "value"), (0, u "[B"), (0, .fieldref 10 16), (0, .nameAndType 17 18), (0, u "coder"), (0, u "B"), (2, u "hash"), (0, u "I"), (2, u "hashIsZero"), (0, u "Z"), (0, .methodref 10 28), (0, .nameAndType 5 29), (0, u "([CIILjava/lang/Void;)V"), (8, .fieldref 10 39), (0, .nameAndType 40 26), (0, u "COMPACT_STRINGS"), (1, .class_ 44), (1, u "java/lang/StringUTF16"), (0, u "compress"), (1, .methodref 42 48), (0, .nameAndType 49 50), (0, u "coderFromArrayLen"), (0, u "([BI)B"), (56, .class_ 109), (1, u "java/lang/StringLatin1"), (32, u "()Z"), (34, .methodref 42 178), (0, .nameAndType 45 179), (0, u "([CII)[B"), (154, u "()I"), (0, .methodref 10 336), (0, .nameAndType 17 337), (0, u "()B"), (25, u "([BI)C"), (27, u "(II)V"), (35, u "(I)C"), (64, .methodref 10 493), (0, .nameAndType 494 142), (0, u "isLatin1"), (0, .methodref 107 496), (0, .nameAndType 497 363), (0, u "charAt"), (0, .methodref 42 496), (2, u "checkIndex"), (5, u "length"), (67, .class_ 576), (0, u "java/lang/CharSequence"), (22, u "CASE_INSENSITIVE_ORDER"), (0, u "Ljava/util/Comparator;"), (409, u "([C)V"), (42, .fieldref 1054 1055), (0, .class_ 1056), (0, .nameAndType 1057 1058), (0, u "jdk/internal/util/Preconditions"), (0, u "SIOOBE_FORMATTER"), (0, u "Ljava/util/function/BiFunction;"), (0, .methodref 1054 1060), (0, .nameAndType 501 1061), (0, u "(IILjava/util/function/BiFunction;)I"), (39, u "serialPersistentFields"), (0, u "[Ljava/io/ObjectStreamField;"), (0, .class_ 1104), (0, u "java/lang/String$CaseInsensitiveComparator"), (1, .class_ 1107), (0, u "java/io/Serializable"), (0, .class_ 1109), (0, u "java/lang/Comparable"), (0, .class_ 1111), (0, u "java/lang/constant/Constable"), (0, .class_ 1113), (0, u "java/lang/constant/ConstantDesc"), (2, u "serialVersionUID"), (0, u "J"), (3, u "REPL"), (0, u "C"), (2, u "LATIN1"), (1, u "UTF16")] 323

def k7m0 : Method := { name := "<init>", desc := "()V", sig := { parameters := [], returnType := none }, accessFlags := 1, code := none }
def k7c1 : Code := { maxStack := 5, maxLocals := 2, code := jdk_42_method_3_code, exceptionTable := #[], attributes := #[] }
def k7m1 : Method := { name := "<init>", desc := "([C)V", sig := { parameters := [(.array .char)], returnType := none }, accessFlags := 1, code := some k7c1 }
def k7c2 : Code := { maxStack := 2, maxLocals := 1, code := jdk_42_method_54_code, exceptionTable := #[], attributes := #[] }
def k7m2 : Method := { name := "length", desc := "()I", sig := { parameters := [], returnType := some .int }, accessFlags := 1, code := some k7c2 }
def k7c3 : Code := { maxStack := 2, maxLocals := 2, code := jdk_42_method_56_code, exceptionTable := #[], attributes := #[] }
def k7m3 : Method := { name := "charAt", desc := "(I)C", sig := { parameters := [.int], returnType := some .char }, accessFlags := 1, code := some k7c3 }
def k7c4 : Code := { maxStack := 4, maxLocals := 6, code := jdk_42_method_149_code, exceptionTable := #[], attributes := #[] }
def k7m4 : Method := { name := "<init>", desc := "([CIILjava/lang/Void;)V", sig := { parameters := [(.array .char), .int, .int, (.object "java/lang/Void")], returnType := none }, accessFlags := 2, code := some k7c4 }
def k7c5 : Code := { maxStack := 1, maxLocals := 1, code := jdk_42_method_152_code, exceptionTable := #[], attributes := #[] }
def k7m5 : Method := { name := "coder", desc := "()B", sig := { parameters := [], returnType := some .byte }, accessFlags := 0, code := some k7c5 }
def k7c6 : Code := { maxStack := 1, maxLocals := 1, code := jdk_42_method_154_code, exceptionTable := #[], attributes := #[] }
def k7m6 : Method := { name := "isLatin1", desc := "()Z", sig := { parameters := [], returnType := some .boolean }, accessFlags := 0, code := some k7c6 }
def k7c7 : Code := { maxStack := 3, maxLocals := 2, code := jdk_42_method_155_code, exceptionTable := #[], attributes := #[] }
def k7m7 : Method := { name := "checkIndex", desc := "(II)V", sig := { parameters := [.int, .int], returnType := none }, accessFlags := 8, code := some k7c7 }
/-- java/lang/String -/
def k7 : Class := { plain "java/lang/String" (some 0) with
  accessFlags := 49
  interfaces := #[2, 3, 4, 5, 6]
  cf := some (fileOf pool7 10 #[.nestMembers #[1103]] #[{ accessFlags := 1, nameIndex := 5, descriptorIndex := 6, attributes := #[] }, { accessFlags := 1, nameIndex := 5, descriptorIndex := 1010, attributes := #[] }, { accessFlags := 1, nameIndex := 507, descriptorIndex := 334, attributes := #[] }, { accessFlags := 1, nameIndex := 497, descriptorIndex := 427, attributes := #[] }, { accessFlags := 2, nameIndex := 5, descriptorIndex := 29, attributes := #[] }, { accessFlags := 0, nameIndex := 17, descriptorIndex := 337, attributes := #[] }, { accessFlags := 0, nameIndex := 494, descriptorIndex := 142, attributes := #[] }, { accessFlags := 8, nameIndex := 501, descriptorIndex := 391, attributes := #[] }] 49 2 #[1106, 1108, 575, 1110, 1112] #[{ accessFlags := 18, nameIndex := 13, descriptorIndex := 14, attributes := #[] }, { accessFlags := 18, nameIndex := 17, descriptorIndex := 18, attributes := #[] }, { accessFlags := 2, nameIndex := 21, descriptorIndex := 22, attributes := #[] }, { accessFlags := 2, nameIndex := 25, descriptorIndex := 26, attributes := #[] }, { accessFlags := 26, nameIndex := 1116, descriptorIndex := 1117, attributes := #[] }, { accessFlags := 24, nameIndex := 40, descriptorIndex := 26, attributes := #[] }, { accessFlags := 26, nameIndex := 1101, descriptorIndex := 1102, attributes := #[] }, { accessFlags := 26, nameIndex := 1121, descriptorIndex := 1122, attributes := #[] }, { accessFlags := 25, nameIndex := 599, descriptorIndex := 600, attributes := #[] }, { accessFlags := 24, nameIndex := 1125, descriptorIndex := 18, attributes := #[] }, { accessFlags := 24, nameIndex := 1127, descriptorIndex := 18, attributes := #[] }])
  fields := #[{ name := "value", type := (.array .byte), accessFlags := 18, slot := 0, constantValue := 0 }, { name := "coder", type := .byte, accessFlags := 18, slot := 1, constantValue := 0 }, { name := "hash", type := .int, accessFlags := 2, slot := 2, constantValue := 0 }, { name := "hashIsZero", type := .boolean, accessFlags := 2, slot := 3, constantValue := 0 }, { name := "serialVersionUID", type := .long, accessFlags := 26, slot := 0, constantValue := 0 }, { name := "COMPACT_STRINGS", type := .boolean, accessFlags := 24, slot := 1, constantValue := 0 }, { name := "serialPersistentFields", type := (.array (.object "java/io/ObjectStreamField")), accessFlags := 26, slot := 2, constantValue := 0 }, { name := "REPL", type := .char, accessFlags := 26, slot := 3, constantValue := 0 }, { name := "CASE_INSENSITIVE_ORDER", type := (.object "java/util/Comparator"), accessFlags := 25, slot := 4, constantValue := 0 }, { name := "LATIN1", type := .byte, accessFlags := 24, slot := 5, constantValue := 0 }, { name := "UTF16", type := .byte, accessFlags := 24, slot := 6, constantValue := 0 }]
  methods := #[k7m0, k7m1, k7m2, k7m3, k7m4, k7m5, k7m6, k7m7]
  instanceTypes := #[(.array .byte), .byte, .int, .boolean]
  staticTypes := #[.long, .boolean, (.array (.object "java/io/ObjectStreamField")), .char, (.object "java/util/Comparator"), .byte, .byte]
  resolved := Array.replicate 1451 none
  statics := some 0 }

def pool8 : Array CpInfo := pool [(3, .class_ 4), (0, u "java/lang/String"), (1, .class_ 8), (1, u "java/lang/Object"), (0, u "<init>"), (0, u "()V"), (0, .methodref 12 13), (0, .class_ 14), (0, .nameAndType 15 16), (0, u "java/lang/StringUTF16"), (0, u "newBytesLength"), (0, u "(I)I"), (3, .integer 1073741823), (23, .fieldref 12 45), (0, .nameAndType 46 47), (0, u "$assertionsDisabled"), (0, u "Z"), (0, .methodref 12 49), (0, .nameAndType 50 51), (0, u "length"), (0, u "([B)I"), (7, .fieldref 12 60), (0, .nameAndType 61 62), (0, u "HI_BYTE_SHIFT"), (0, u "I"), (0, .fieldref 12 64), (0, .nameAndType 65 62), (0, u "LO_BYTE_SHIFT"), (1, .methodref 12 68), (0, .nameAndType 69 70), (0, u "checkIndex"), (0, u "(I[B)V"), (0, .methodref 12 72), (0, .nameAndType 73 74), (0, u "getChar"), (0, u "([BI)C"), (32, .methodref 12 108), (0, .nameAndType 109 110), (0, u "newBytesFor"), (0, u "(I)[B"), (0, .methodref 12 112), (0, .nameAndType 113 114), (0, u "putChar"), (0, u "([BII)V"), (0, .methodref 12 116), (0, .nameAndType 117 118), (0, u "compress"), (0, u "([CI[BII)I"), (0, .methodref 12 120), (0, .nameAndType 121 122), (0, u "toBytes"), (0, u "([CII)[B"), (138, u "coderFromArrayLen"), (0, u "([BI)B"), (106, .class_ 371), (1, u "java/lang/StringUTF16$LinesSpliterator"), (20, u "charAt"), (21, .methodref 3 415), (0, .nameAndType 69 416), (0, u "(II)V"), (13, u "MAX_LENGTH"), (196, .class_ 628), (0, u "java/lang/StringUTF16$CodePointsSpliterator"), (0, .class_ 630), (0, u "java/lang/StringUTF16$CharsSpliterator")] 4

def k8m0 : Method := { name := "<init>", desc := "()V", sig := { parameters := [], returnType := none }, accessFlags := 0, code := none }
def k8c1 : Code := { maxStack := 1, maxLocals := 1, code := jdk_52_method_2_code, exceptionTable := #[], attributes := #[] }
def k8m1 : Method := { name := "newBytesFor", desc := "(I)[B", sig := { parameters := [.int], returnType := some (.array .byte) }, accessFlags := 9, code := some k8c1 }
def k8c2 : Code := { maxStack := 4, maxLocals := 1, code := jdk_52_method_3_code, exceptionTable := #[], attributes := #[] }
def k8m2 : Method := { name := "newBytesLength", desc := "(I)I", sig := { parameters := [.int], returnType := some .int }, accessFlags := 9, code := some k8c2 }
def k8c3 : Code := { maxStack := 4, maxLocals := 3, code := jdk_52_method_4_code, exceptionTable := #[], attributes := #[] }
def k8m3 : Method := { name := "putChar", desc := "([BII)V", sig := { parameters := [(.array .byte), .int, .int], returnType := none }, accessFlags := 8, code := some k8c3 }
def k8c4 : Code := { maxStack := 3, maxLocals := 2, code := jdk_52_method_5_code, exceptionTable := #[], attributes := #[] }
def k8m4 : Method := { name := "getChar", desc := "([BI)C", sig := { parameters := [(.array .byte), .int], returnType := some .char }, accessFlags := 8, code := some k8c4 }
def k8c5 : Code := { maxStack := 2, maxLocals := 1, code := jdk_52_method_6_code, exceptionTable := #[], attributes := #[] }
def k8m5 : Method := { name := "length", desc := "([B)I", sig := { parameters := [(.array .byte)], returnType := some .int }, accessFlags := 9, code := some k8c5 }
def k8c6 : Code := { maxStack := 4, maxLocals := 5, code := jdk_52_method_14_code, exceptionTable := #[], attributes := #[] }
def k8m6 : Method := { name := "toBytes", desc := "([CII)[B", sig := { parameters := [(.array .char), .int, .int], returnType := some (.array .byte) }, accessFlags := 9, code := some k8c6 }
def k8c7 : Code := { maxStack := 2, maxLocals := 2, code := jdk_52_method_15_code, exceptionTable := #[], attributes := #[] }
def k8m7 : Method := { name := "coderFromArrayLen", desc := "([BI)B", sig := { parameters := [(.array .byte), .int], returnType := some .byte }, accessFlags := 8, code := some k8c7 }
def k8c8 : Code := { maxStack := 5, maxLocals := 6, code := jdk_52_method_16_code, exceptionTable := #[], attributes := #[] }
def k8m8 : Method := { name := "compress", desc := "([CII)[B", sig := { parameters := [(.array .char), .int, .int], returnType := some (.array .byte) }, accessFlags := 9, code := some k8c8 }
def k8c9 : Code := { maxStack := 3, maxLocals := 7, code := jdk_52_method_21_code, exceptionTable := #[], attributes := #[] }
def k8m9 : Method := { name := "compress", desc := "([CI[BII)I", sig := { parameters := [(.array .char), .int, (.array .byte), .int, .int], returnType := some .int }, accessFlags := 9, code := some k8c9 }
def k8c10 : Code := { maxStack := 2, maxLocals := 2, code := jdk_52_method_83_code, exceptionTable := #[], attributes := #[] }
def k8m10 : Method := { name := "charAt", desc := "([BI)C", sig := { parameters := [(.array .byte), .int], returnType := some .char }, accessFlags := 9, code := some k8c10 }
def k8c11 : Code := { maxStack := 2, maxLocals := 2, code := jdk_52_method_91_code, exceptionTable := #[], attributes := #[] }
def k8m11 : Method := { name := "checkIndex", desc := "(I[B)V", sig := { parameters := [.int, (.array .byte)], returnType := none }, accessFlags := 9, code := some k8c11 }
/-- java/lang/StringUTF16 -/
def k8 : Class := { plain "java/lang/StringUTF16" (some 0) with
  accessFlags := 48
  interfaces := #[]
  cf := some (fileOf pool8 12 #[.nestMembers #[627, 629, 369]] #[{ accessFlags := 0, nameIndex := 9, descriptorIndex := 10, attributes := #[] }, { accessFlags := 9, nameIndex := 109, descriptorIndex := 110, attributes := #[] }, { accessFlags := 9, nameIndex := 15, descriptorIndex := 16, attributes := #[] }, { accessFlags := 8, nameIndex := 113, descriptorIndex := 114, attributes := #[] }, { accessFlags := 8, nameIndex := 73, descriptorIndex := 74, attributes := #[] }, { accessFlags := 9, nameIndex := 50, descriptorIndex := 51, attributes := #[] }, { accessFlags := 9, nameIndex := 121, descriptorIndex := 122, attributes := #[] }, { accessFlags := 8, nameIndex := 261, descriptorIndex := 262, attributes := #[] }, { accessFlags := 9, nameIndex := 117, descriptorIndex := 122, attributes := #[] }, { accessFlags := 9, nameIndex := 117, descriptorIndex := 118, attributes := #[] }, { accessFlags := 9, nameIndex := 392, descriptorIndex := 74, attributes := #[] }, { accessFlags := 9, nameIndex := 69, descriptorIndex := 70, attributes := #[] }] 48 6 #[] #[{ accessFlags := 26, nameIndex := 61, descriptorIndex := 62, attributes := #[] }, { accessFlags := 26, nameIndex := 65, descriptorIndex := 62, attributes := #[] }, { accessFlags := 24, nameIndex := 430, descriptorIndex := 62, attributes := #[] }, { accessFlags := 4120, nameIndex := 46, descriptorIndex := 47, attributes := #[] }])
  fields := #[{ name := "HI_BYTE_SHIFT", type := .int, accessFlags := 26, slot := 0, constantValue := 0 }, { name := "LO_BYTE_SHIFT", type := .int, accessFlags := 26, slot := 1, constantValue := 0 }, { name := "MAX_LENGTH", type := .int, accessFlags := 24, slot := 2, constantValue := 0 }, { name := "$assertionsDisabled", type := .boolean, accessFlags := 4120, slot := 3, constantValue := 0 }]
  methods := #[k8m0, k8m1, k8m2, k8m3, k8m4, k8m5, k8m6, k8m7, k8m8, k8m9, k8m10, k8m11]
  instanceTypes := #[]
  staticTypes := #[.int, .int, .int, .boolean]
  resolved := Array.replicate 635 none
  statics := some 1 }

def pool9 : Array CpInfo := pool [(2, .class_ 4), (1, u "java/lang/Object"), (0, u "<init>"), (0, u "()V"), (0, .methodref 8 9), (0, .class_ 10), (0, .nameAndType 11 12), (0, u "java/lang/String"), (0, u "length"), (0, u "()I"), (0, .methodref 14 15), (0, .class_ 16), (0, .nameAndType 17 18), (0, u "com/example/shelfwright/shelfwright/catalog/Texts"), (0, u "isLoneSurrogate"), (0, u "(Ljava/lang/CharSequence;I)Z"), (2, u "isUnicode"), (0, u "(Ljava/lang/String;)Z"), (7, .nameAndType 31 32), (0, u "charAt"), (0, u "(I)C"), (8, .interfaceMethodref 42 30), (0, .class_ 43), (0, u "java/lang/CharSequence"), (0, .methodref 45 46), (0, .class_ 47), (0, .nameAndType 48 49), (0, u "java/lang/Character"), (0, u "isHighSurrogate"), (0, u "(C)Z"), (0, .interfaceMethodref 42 9), (0, .methodref 45 52), (0, .nameAndType 53 49), (0, u "isLowSurrogate"), (0, u "REPLACEMENT_CHARACTER"), (0, u "C")] 8

def k9m0 : Method := { name := "<init>", desc := "()V", sig := { parameters := [], returnType := none }, accessFlags := 2, code := none }
def k9c1 : Code := { maxStack := 2, maxLocals := 2, code := prog_21_method_2_code, exceptionTable := #[], attributes := #[] }
def k9m1 : Method := { name := "isUnicode", desc := "(Ljava/lang/String;)Z", sig := { parameters := [(.object "java/lang/String")], returnType := some .boolean }, accessFlags := 9, code := some k9c1 }
def k9c2 : Code := { maxStack := 3, maxLocals := 3, code := prog_21_method_4_code, exceptionTable := #[], attributes := #[] }
def k9m2 : Method := { name := "isLoneSurrogate", desc := "(Ljava/lang/CharSequence;I)Z", sig := { parameters := [(.object "java/lang/CharSequence"), .int], returnType := some .boolean }, accessFlags := 9, code := some k9c2 }
/-- com/example/shelfwright/shelfwright/catalog/Texts -/
def k9 : Class := { plain "com/example/shelfwright/shelfwright/catalog/Texts" (some 0) with
  accessFlags := 49
  interfaces := #[]
  cf := some (fileOf pool9 14 #[] #[{ accessFlags := 2, nameIndex := 5, descriptorIndex := 6, attributes := #[] }, { accessFlags := 9, nameIndex := 21, descriptorIndex := 22, attributes := #[] }, { accessFlags := 9, nameIndex := 17, descriptorIndex := 18, attributes := #[] }] 49 2 #[] #[{ accessFlags := 25, nameIndex := 54, descriptorIndex := 55, attributes := #[] }])
  fields := #[{ name := "REPLACEMENT_CHARACTER", type := .char, accessFlags := 25, slot := 0, constantValue := 0 }]
  methods := #[k9m0, k9m1, k9m2]
  instanceTypes := #[]
  staticTypes := #[.char]
  resolved := Array.replicate 64 none
  statics := none }

def pool10 : Array CpInfo := pool [(2, .class_ 4), (1, u "java/lang/Object"), (0, u "<init>"), (0, u "()V"), (17, .class_ 26), (1, u "jdk/internal/util/Preconditions"), (6, u "checkIndex"), (21, .class_ 56), (0, u "jdk/internal/util/Preconditions$4"), (57, .class_ 115), (0, u "jdk/internal/util/Preconditions$1"), (7, u "SIOOBE_FORMATTER"), (0, u "Ljava/util/function/BiFunction;"), (0, .class_ 126), (0, u "jdk/internal/util/Preconditions$2"), (3, u "AIOOBE_FORMATTER"), (0, .class_ 132), (0, u "jdk/internal/util/Preconditions$3"), (3, u "IOOBE_FORMATTER"), (41, u "(IILjava/util/function/BiFunction;)I")] 15

def k10m0 : Method := { name := "<init>", desc := "()V", sig := { parameters := [], returnType := none }, accessFlags := 1, code := none }
def k10c1 : Code := { maxStack := 3, maxLocals := 3, code := jdk_41_method_11_code, exceptionTable := #[], attributes := #[] }
def k10m1 : Method := { name := "checkIndex", desc := "(IILjava/util/function/BiFunction;)I", sig := { parameters := [.int, .int, (.object "java/util/function/BiFunction")], returnType := some .int }, accessFlags := 9, code := some k10c1 }
/-- jdk/internal/util/Preconditions -/
def k10 : Class := { plain "jdk/internal/util/Preconditions" (some 0) with
  accessFlags := 33
  interfaces := #[]
  cf := some (fileOf pool10 24 #[.nestMembers #[55, 131, 125, 114]] #[{ accessFlags := 1, nameIndex := 5, descriptorIndex := 6, attributes := #[] }, { accessFlags := 9, nameIndex := 33, descriptorIndex := 178, attributes := #[] }] 33 2 #[] #[{ accessFlags := 25, nameIndex := 123, descriptorIndex := 124, attributes := #[] }, { accessFlags := 25, nameIndex := 130, descriptorIndex := 124, attributes := #[] }, { accessFlags := 25, nameIndex := 136, descriptorIndex := 124, attributes := #[] }])
  fields := #[{ name := "SIOOBE_FORMATTER", type := (.object "java/util/function/BiFunction"), accessFlags := 25, slot := 0, constantValue := 0 }, { name := "AIOOBE_FORMATTER", type := (.object "java/util/function/BiFunction"), accessFlags := 25, slot := 1, constantValue := 0 }, { name := "IOOBE_FORMATTER", type := (.object "java/util/function/BiFunction"), accessFlags := 25, slot := 2, constantValue := 0 }]
  methods := #[k10m0, k10m1]
  instanceTypes := #[]
  staticTypes := #[(.object "java/util/function/BiFunction"), (.object "java/util/function/BiFunction"), (.object "java/util/function/BiFunction")]
  resolved := Array.replicate 194 none
  statics := some 2 }

def pool11 : Array CpInfo := pool [(1, .class_ 2), (0, u "java/lang/Character"), (18, u "value"), (0, u "C"), (19, .class_ 44), (1, u "java/lang/Object"), (3, .class_ 50), (1, u "java/lang/Character$CharacterCache"), (24, .integer 55296), (0, .integer 56320), (0, .integer 57344), (2, u "isHighSurrogate"), (0, u "(C)Z"), (2, u "isLowSurrogate"), (199, u "$assertionsDisabled"), (0, u "Z"), (21, .class_ 309), (1, u "java/lang/Character$UnicodeBlock"), (73, u "TYPE"), (0, u "Ljava/lang/Class;"), (0, .class_ 386), (0, u "java/io/Serializable"), (0, .class_ 388), (0, u "java/lang/Comparable"), (0, .class_ 390), (0, u "java/lang/constant/Constable"), (0, u "MIN_RADIX"), (0, u "I"), (2, u "MAX_RADIX"), (1, u "MIN_VALUE"), (1, u "MAX_VALUE"), (3, u "UNASSIGNED"), (0, u "B"), (0, u "UPPERCASE_LETTER"), (1, u "LOWERCASE_LETTER"), (0, u "TITLECASE_LETTER"), (1, u "MODIFIER_LETTER"), (1, u "OTHER_LETTER"), (1, u "NON_SPACING_MARK"), (1, u "ENCLOSING_MARK"), (1, u "COMBINING_SPACING_MARK"), (1, u "DECIMAL_DIGIT_NUMBER"), (1, u "LETTER_NUMBER"), (1, u "OTHER_NUMBER"), (1, u "SPACE_SEPARATOR"), (1, u "LINE_SEPARATOR"), (1, u "PARAGRAPH_SEPARATOR"), (1, u "CONTROL"), (1, u "FORMAT"), (1, u "PRIVATE_USE"), (1, u "SURROGATE"), (1, u "DASH_PUNCTUATION"), (1, u "START_PUNCTUATION"), (1, u "END_PUNCTUATION"), (1, u "CONNECTOR_PUNCTUATION"), (1, u "OTHER_PUNCTUATION"), (1, u "MATH_SYMBOL"), (1, u "CURRENCY_SYMBOL"), (1, u "MODIFIER_SYMBOL"), (1, u "OTHER_SYMBOL"), (1, u "INITIAL_QUOTE_PUNCTUATION"), (1, u "FINAL_QUOTE_PUNCTUATION"), (1, u "ERROR"), (1, u "DIRECTIONALITY_UNDEFINED"), (0, u "DIRECTIONALITY_LEFT_TO_RIGHT"), (0, u "DIRECTIONALITY_RIGHT_TO_LEFT"), (0, u "DIRECTIONALITY_RIGHT_TO_LEFT_ARABIC"), (0, u "DIRECTIONALITY_EUROPEAN_NUMBER"), (0, u "DIRECTIONALITY_EUROPEAN_NUMBER_SEPARATOR"), (0, u "DIRECTIONALITY_EUROPEAN_NUMBER_TERMINATOR"), (0, u "DIRECTIONALITY_ARABIC_NUMBER"), (0, u "DIRECTIONALITY_COMMON_NUMBER_SEPARATOR"), (0, u "DIRECTIONALITY_NONSPACING_MARK"), (0, u "DIRECTIONALITY_BOUNDARY_NEUTRAL"), (0, u "DIRECTIONALITY_PARAGRAPH_SEPARATOR"), (0, u "DIRECTIONALITY_SEGMENT_SEPARATOR"), (0, u "DIRECTIONALITY_WHITESPACE"), (0, u "DIRECTIONALITY_OTHER_NEUTRALS"), (0, u "DIRECTIONALITY_LEFT_TO_RIGHT_EMBEDDING"), (0, u "DIRECTIONALITY_LEFT_TO_RIGHT_OVERRIDE"), (0, u "DIRECTIONALITY_RIGHT_TO_LEFT_EMBEDDING"), (0, u "DIRECTIONALITY_RIGHT_TO_LEFT_OVERRIDE"), (1, u "DIRECTIONALITY_POP_DIRECTIONAL_FORMAT"), (0, u "DIRECTIONALITY_LEFT_TO_RIGHT_ISOLATE"), (0, u "DIRECTIONALITY_RIGHT_TO_LEFT_ISOLATE"), (0, u "DIRECTIONALITY_FIRST_STRONG_ISOLATE"), (0, u "DIRECTIONALITY_POP_DIRECTIONAL_ISOLATE"), (0, u "MIN_HIGH_SURROGATE"), (0, u "MAX_HIGH_SURROGATE"), (1, u "MIN_LOW_SURROGATE"), (0, u "MAX_LOW_SURROGATE"), (1, u "MIN_SURROGATE"), (0, u "MAX_SURROGATE"), (0, u "MIN_SUPPLEMENTARY_CODE_POINT"), (0, u "MIN_CODE_POINT"), (0, u "MAX_CODE_POINT"), (1, u "serialVersionUID"), (0, u "J"), (2, u "SIZE"), (0, u "BYTES"), (88, .class_ 596), (0, u "java/lang/Character$UnicodeScript"), (0, .class_ 598), (0, u "java/lang/Character$Subset")] 5

def k11c0 : Code := { maxStack := 2, maxLocals := 1, code := jdk_89_method_14_code, exceptionTable := #[], attributes := #[] }
def k11m0 : Method := { name := "isHighSurrogate", desc := "(C)Z", sig := { parameters := [.char], returnType := some .boolean }, accessFlags := 9, code := some k11c0 }
def k11c1 : Code := { maxStack := 2, maxLocals := 1, code := jdk_89_method_15_code, exceptionTable := #[], attributes := #[] }
def k11m1 : Method := { name := "isLowSurrogate", desc := "(C)Z", sig := { parameters := [.char], returnType := some .boolean }, accessFlags := 9, code := some k11c1 }
/-- java/lang/Character -/
def k11 : Class := { plain "java/lang/Character" (some 0) with
  accessFlags := 49
  interfaces := #[2, 3, 5]
  cf := some (fileOf pool11 1 #[.nestMembers #[48, 595, 307, 597]] #[{ accessFlags := 9, nameIndex := 80, descriptorIndex := 81, attributes := #[] }, { accessFlags := 9, nameIndex := 84, descriptorIndex := 81, attributes := #[] }] 49 42 #[385, 387, 389] #[{ accessFlags := 25, nameIndex := 391, descriptorIndex := 392, attributes := #[] }, { accessFlags := 25, nameIndex := 395, descriptorIndex := 392, attributes := #[] }, { accessFlags := 25, nameIndex := 397, descriptorIndex := 22, attributes := #[] }, { accessFlags := 25, nameIndex := 399, descriptorIndex := 22, attributes := #[] }, { accessFlags := 25, nameIndex := 383, descriptorIndex := 384, attributes := #[] }, { accessFlags := 25, nameIndex := 403, descriptorIndex := 404, attributes := #[] }, { accessFlags := 25, nameIndex := 405, descriptorIndex := 404, attributes := #[] }, { accessFlags := 25, nameIndex := 407, descriptorIndex := 404, attributes := #[] }, { accessFlags := 25, nameIndex := 408, descriptorIndex := 404, attributes := #[] }, { accessFlags := 25, nameIndex := 410, descriptorIndex := 404, attributes := #[] }, { accessFlags := 25, nameIndex := 412, descriptorIndex := 404, attributes := #[] }, { accessFlags := 25, nameIndex := 414, descriptorIndex := 404, attributes := #[] }, { accessFlags := 25, nameIndex := 416, descriptorIndex := 404, attributes := #[] }, { accessFlags := 25, nameIndex := 418, descriptorIndex := 404, attributes := #[] }, { accessFlags := 25, nameIndex := 420, descriptorIndex := 404, attributes := #[] }, { accessFlags := 25, nameIndex := 422, descriptorIndex := 404, attributes := #[] }, { accessFlags := 25, nameIndex := 424, descriptorIndex := 404, attributes := #[] }, { accessFlags := 25, nameIndex := 426, descriptorIndex := 404, attributes := #[] }, { accessFlags := 25, nameIndex := 428, descriptorIndex := 404, attributes := #[] }, { accessFlags := 25, nameIndex := 430, descriptorIndex := 404, attributes := #[] }, { accessFlags := 25, nameIndex := 432, descriptorIndex := 404, attributes := #[] }, { accessFlags := 25, nameIndex := 434, descriptorIndex := 404, attributes := #[] }, { accessFlags := 25, nameIndex := 436, descriptorIndex := 404, attributes := #[] }, { accessFlags := 25, nameIndex := 438, descriptorIndex := 404, attributes := #[] }, { accessFlags := 25, nameIndex := 440, descriptorIndex := 404, attributes := #[] }, { accessFlags := 25, nameIndex := 442, descriptorIndex := 404, attributes := #[] }, { accessFlags := 25, nameIndex := 444, descriptorIndex := 404, attributes := #[] }, { accessFlags := 25, nameIndex := 446, descriptorIndex := 404, attributes := #[] }, { accessFlags := 25, nameIndex := 448, descriptorIndex := 404, attributes := #[] }, { accessFlags := 25, nameIndex := 450, descriptorIndex := 404, attributes := #[] }, { accessFlags := 25, nameIndex := 452, descriptorIndex := 404, attributes := #[] }, { accessFlags := 25, nameIndex := 454, descriptorIndex := 404, attributes := #[] }, { accessFlags := 25, nameIndex := 456, descriptorIndex := 404, attributes := #[] }, { accessFlags := 25, nameIndex := 458, descriptorIndex := 404, attributes := #[] }, { accessFlags := 25, nameIndex := 460, descriptorIndex := 404, attributes := #[] }, { accessFlags := 24, nameIndex := 462, descriptorIndex := 392, attributes := #[] }, { accessFlags := 25, nameIndex := 464, descriptorIndex := 404, attributes := #[] }, { accessFlags := 25, nameIndex := 465, descriptorIndex := 404, attributes := #[] }, { accessFlags := 25, nameIndex := 466, descriptorIndex := 404, attributes := #[] }, { accessFlags := 25, nameIndex := 467, descriptorIndex := 404, attributes := #[] }, { accessFlags := 25, nameIndex := 468, descriptorIndex := 404, attributes := #[] }, { accessFlags := 25, nameIndex := 469, descriptorIndex := 404, attributes := #[] }, { accessFlags := 25, nameIndex := 470, descriptorIndex := 404, attributes := #[] }, { accessFlags := 25, nameIndex := 471, descriptorIndex := 404, attributes := #[] }, { accessFlags := 25, nameIndex := 472, descriptorIndex := 404, attributes := #[] }, { accessFlags := 25, nameIndex := 473, descriptorIndex := 404, attributes := #[] }, { accessFlags := 25, nameIndex := 474, descriptorIndex := 404, attributes := #[] }, { accessFlags := 25, nameIndex := 475, descriptorIndex := 404, attributes := #[] }, { accessFlags := 25, nameIndex := 476, descriptorIndex := 404, attributes := #[] }, { accessFlags := 25, nameIndex := 477, descriptorIndex := 404, attributes := #[] }, { accessFlags := 25, nameIndex := 478, descriptorIndex := 404, attributes := #[] }, { accessFlags := 25, nameIndex := 479, descriptorIndex := 404, attributes := #[] }, { accessFlags := 25, nameIndex := 480, descriptorIndex := 404, attributes := #[] }, { accessFlags := 25, nameIndex := 481, descriptorIndex := 404, attributes := #[] }, { accessFlags := 25, nameIndex := 482, descriptorIndex := 404, attributes := #[] }, { accessFlags := 25, nameIndex := 484, descriptorIndex := 404, attributes := #[] }, { accessFlags := 25, nameIndex := 485, descriptorIndex := 404, attributes := #[] }, { accessFlags := 25, nameIndex := 486, descriptorIndex := 404, attributes := #[] }, { accessFlags := 25, nameIndex := 487, descriptorIndex := 404, attributes := #[] }, { accessFlags := 25, nameIndex := 488, descriptorIndex := 404, attributes := #[] }, { accessFlags := 25, nameIndex := 489, descriptorIndex := 22, attributes := #[] }, { accessFlags := 25, nameIndex := 490, descriptorIndex := 22, attributes := #[] }, { accessFlags := 25, nameIndex := 492, descriptorIndex := 22, attributes := #[] }, { accessFlags := 25, nameIndex := 493, descriptorIndex := 22, attributes := #[] }, { accessFlags := 25, nameIndex := 495, descriptorIndex := 22, attributes := #[] }, { accessFlags := 25, nameIndex := 496, descriptorIndex := 22, attributes := #[] }, { accessFlags := 25, nameIndex := 497, descriptorIndex := 392, attributes := #[] }, { accessFlags := 25, nameIndex := 498, descriptorIndex := 392, attributes := #[] }, { accessFlags := 25, nameIndex := 499, descriptorIndex := 392, attributes := #[] }, { accessFlags := 18, nameIndex := 21, descriptorIndex := 22, attributes := #[] }, { accessFlags := 26, nameIndex := 501, descriptorIndex := 502, attributes := #[] }, { accessFlags := 25, nameIndex := 505, descriptorIndex := 392, attributes := #[] }, { accessFlags := 25, nameIndex := 506, descriptorIndex := 392, attributes := #[] }, { accessFlags := 4120, nameIndex := 284, descriptorIndex := 285, attributes := #[] }])
  fields := #[{ name := "MIN_RADIX", type := .int, accessFlags := 25, slot := 0, constantValue := 0 }, { name := "MAX_RADIX", type := .int, accessFlags := 25, slot := 1, constantValue := 0 }, { name := "MIN_VALUE", type := .char, accessFlags := 25, slot := 2, constantValue := 0 }, { name := "MAX_VALUE", type := .char, accessFlags := 25, slot := 3, constantValue := 0 }, { name := "TYPE", type := (.object "java/lang/Class"), accessFlags := 25, slot := 4, constantValue := 0 }, { name := "UNASSIGNED", type := .byte, accessFlags := 25, slot := 5, constantValue := 0 }, { name := "UPPERCASE_LETTER", type := .byte, accessFlags := 25, slot := 6, constantValue := 0 }, { name := "LOWERCASE_LETTER", type := .byte, accessFlags := 25, slot := 7, constantValue := 0 }, { name := "TITLECASE_LETTER", type := .byte, accessFlags := 25, slot := 8, constantValue := 0 }, { name := "MODIFIER_LETTER", type := .byte, accessFlags := 25, slot := 9, constantValue := 0 }, { name := "OTHER_LETTER", type := .byte, accessFlags := 25, slot := 10, constantValue := 0 }, { name := "NON_SPACING_MARK", type := .byte, accessFlags := 25, slot := 11, constantValue := 0 }, { name := "ENCLOSING_MARK", type := .byte, accessFlags := 25, slot := 12, constantValue := 0 }, { name := "COMBINING_SPACING_MARK", type := .byte, accessFlags := 25, slot := 13, constantValue := 0 }, { name := "DECIMAL_DIGIT_NUMBER", type := .byte, accessFlags := 25, slot := 14, constantValue := 0 }, { name := "LETTER_NUMBER", type := .byte, accessFlags := 25, slot := 15, constantValue := 0 }, { name := "OTHER_NUMBER", type := .byte, accessFlags := 25, slot := 16, constantValue := 0 }, { name := "SPACE_SEPARATOR", type := .byte, accessFlags := 25, slot := 17, constantValue := 0 }, { name := "LINE_SEPARATOR", type := .byte, accessFlags := 25, slot := 18, constantValue := 0 }, { name := "PARAGRAPH_SEPARATOR", type := .byte, accessFlags := 25, slot := 19, constantValue := 0 }, { name := "CONTROL", type := .byte, accessFlags := 25, slot := 20, constantValue := 0 }, { name := "FORMAT", type := .byte, accessFlags := 25, slot := 21, constantValue := 0 }, { name := "PRIVATE_USE", type := .byte, accessFlags := 25, slot := 22, constantValue := 0 }, { name := "SURROGATE", type := .byte, accessFlags := 25, slot := 23, constantValue := 0 }, { name := "DASH_PUNCTUATION", type := .byte, accessFlags := 25, slot := 24, constantValue := 0 }, { name := "START_PUNCTUATION", type := .byte, accessFlags := 25, slot := 25, constantValue := 0 }, { name := "END_PUNCTUATION", type := .byte, accessFlags := 25, slot := 26, constantValue := 0 }, { name := "CONNECTOR_PUNCTUATION", type := .byte, accessFlags := 25, slot := 27, constantValue := 0 }, { name := "OTHER_PUNCTUATION", type := .byte, accessFlags := 25, slot := 28, constantValue := 0 }, { name := "MATH_SYMBOL", type := .byte, accessFlags := 25, slot := 29, constantValue := 0 }, { name := "CURRENCY_SYMBOL", type := .byte, accessFlags := 25, slot := 30, constantValue := 0 }, { name := "MODIFIER_SYMBOL", type := .byte, accessFlags := 25, slot := 31, constantValue := 0 }, { name := "OTHER_SYMBOL", type := .byte, accessFlags := 25, slot := 32, constantValue := 0 }, { name := "INITIAL_QUOTE_PUNCTUATION", type := .byte, accessFlags := 25, slot := 33, constantValue := 0 }, { name := "FINAL_QUOTE_PUNCTUATION", type := .byte, accessFlags := 25, slot := 34, constantValue := 0 }, { name := "ERROR", type := .int, accessFlags := 24, slot := 35, constantValue := 0 }, { name := "DIRECTIONALITY_UNDEFINED", type := .byte, accessFlags := 25, slot := 36, constantValue := 0 }, { name := "DIRECTIONALITY_LEFT_TO_RIGHT", type := .byte, accessFlags := 25, slot := 37, constantValue := 0 }, { name := "DIRECTIONALITY_RIGHT_TO_LEFT", type := .byte, accessFlags := 25, slot := 38, constantValue := 0 }, { name := "DIRECTIONALITY_RIGHT_TO_LEFT_ARABIC", type := .byte, accessFlags := 25, slot := 39, constantValue := 0 }, { name := "DIRECTIONALITY_EUROPEAN_NUMBER", type := .byte, accessFlags := 25, slot := 40, constantValue := 0 }, { name := "DIRECTIONALITY_EUROPEAN_NUMBER_SEPARATOR", type := .byte, accessFlags := 25, slot := 41, constantValue := 0 }, { name := "DIRECTIONALITY_EUROPEAN_NUMBER_TERMINATOR", type := .byte, accessFlags := 25, slot := 42, constantValue := 0 }, { name := "DIRECTIONALITY_ARABIC_NUMBER", type := .byte, accessFlags := 25, slot := 43, constantValue := 0 }, { name := "DIRECTIONALITY_COMMON_NUMBER_SEPARATOR", type := .byte, accessFlags := 25, slot := 44, constantValue := 0 }, { name := "DIRECTIONALITY_NONSPACING_MARK", type := .byte, accessFlags := 25, slot := 45, constantValue := 0 }, { name := "DIRECTIONALITY_BOUNDARY_NEUTRAL", type := .byte, accessFlags := 25, slot := 46, constantValue := 0 }, { name := "DIRECTIONALITY_PARAGRAPH_SEPARATOR", type := .byte, accessFlags := 25, slot := 47, constantValue := 0 }, { name := "DIRECTIONALITY_SEGMENT_SEPARATOR", type := .byte, accessFlags := 25, slot := 48, constantValue := 0 }, { name := "DIRECTIONALITY_WHITESPACE", type := .byte, accessFlags := 25, slot := 49, constantValue := 0 }, { name := "DIRECTIONALITY_OTHER_NEUTRALS", type := .byte, accessFlags := 25, slot := 50, constantValue := 0 }, { name := "DIRECTIONALITY_LEFT_TO_RIGHT_EMBEDDING", type := .byte, accessFlags := 25, slot := 51, constantValue := 0 }, { name := "DIRECTIONALITY_LEFT_TO_RIGHT_OVERRIDE", type := .byte, accessFlags := 25, slot := 52, constantValue := 0 }, { name := "DIRECTIONALITY_RIGHT_TO_LEFT_EMBEDDING", type := .byte, accessFlags := 25, slot := 53, constantValue := 0 }, { name := "DIRECTIONALITY_RIGHT_TO_LEFT_OVERRIDE", type := .byte, accessFlags := 25, slot := 54, constantValue := 0 }, { name := "DIRECTIONALITY_POP_DIRECTIONAL_FORMAT", type := .byte, accessFlags := 25, slot := 55, constantValue := 0 }, { name := "DIRECTIONALITY_LEFT_TO_RIGHT_ISOLATE", type := .byte, accessFlags := 25, slot := 56, constantValue := 0 }, { name := "DIRECTIONALITY_RIGHT_TO_LEFT_ISOLATE", type := .byte, accessFlags := 25, slot := 57, constantValue := 0 }, { name := "DIRECTIONALITY_FIRST_STRONG_ISOLATE", type := .byte, accessFlags := 25, slot := 58, constantValue := 0 }, { name := "DIRECTIONALITY_POP_DIRECTIONAL_ISOLATE", type := .byte, accessFlags := 25, slot := 59, constantValue := 0 }, { name := "MIN_HIGH_SURROGATE", type := .char, accessFlags := 25, slot := 60, constantValue := 0 }, { name := "MAX_HIGH_SURROGATE", type := .char, accessFlags := 25, slot := 61, constantValue := 0 }, { name := "MIN_LOW_SURROGATE", type := .char, accessFlags := 25, slot := 62, constantValue := 0 }, { name := "MAX_LOW_SURROGATE", type := .char, accessFlags := 25, slot := 63, constantValue := 0 }, { name := "MIN_SURROGATE", type := .char, accessFlags := 25, slot := 64, constantValue := 0 }, { name := "MAX_SURROGATE", type := .char, accessFlags := 25, slot := 65, constantValue := 0 }, { name := "MIN_SUPPLEMENTARY_CODE_POINT", type := .int, accessFlags := 25, slot := 66, constantValue := 0 }, { name := "MIN_CODE_POINT", type := .int, accessFlags := 25, slot := 67, constantValue := 0 }, { name := "MAX_CODE_POINT", type := .int, accessFlags := 25, slot := 68, constantValue := 0 }, { name := "value", type := .char, accessFlags := 18, slot := 0, constantValue := 0 }, { name := "serialVersionUID", type := .long, accessFlags := 26, slot := 69, constantValue := 0 }, { name := "SIZE", type := .int, accessFlags := 25, slot := 70, constantValue := 0 }, { name := "BYTES", type := .int, accessFlags := 25, slot := 71, constantValue := 0 }, { name := "$assertionsDisabled", type := .boolean, accessFlags := 4120, slot := 72, constantValue := 0 }]
  methods := #[k11m0, k11m1]
  instanceTypes := #[.char]
  staticTypes := #[.int, .int, .char, .char, (.object "java/lang/Class"), .byte, .byte, .byte, .byte, .byte, .byte, .byte, .byte, .byte, .byte, .byte, .byte, .byte, .byte, .byte, .byte, .byte, .byte, .byte, .byte, .byte, .byte, .byte, .byte, .byte, .byte, .byte, .byte, .byte, .byte, .int, .byte, .byte, .byte, .byte, .byte, .byte, .byte, .byte, .byte, .byte, .byte, .byte, .byte, .byte, .byte, .byte, .byte, .byte, .byte, .byte, .byte, .byte, .byte, .byte, .char, .char, .char, .char, .char, .char, .int, .int, .int, .long, .int, .int, .boolean]
  resolved := Array.replicate 604 none
  statics := none }

def pool12 : Array CpInfo := pool [(1, .class_ 2), (0, u "java/lang/String"), (1, .class_ 6), (1, u "java/lang/Object"), (0, u "<init>"), (0, u "()V"), (0, .methodref 1 10), (0, .nameAndType 11 12), (0, u "checkIndex"), (0, u "(II)V"), (1, .class_ 16), (1, u "java/lang/StringLatin1"), (36, u "([BI)C"), (67, u "$assertionsDisabled"), (0, u "Z"), (98, .class_ 223), (1, u "java/lang/StringLatin1$LinesSpliterator"), (28, u "charAt"), (137, .class_ 391), (0, u "java/lang/StringLatin1$CharsSpliterator")] 3

def k12m0 : Method := { name := "<init>", desc := "()V", sig := { parameters := [], returnType := none }, accessFlags := 0, code := none }
def k12c1 : Code := { maxStack := 2, maxLocals := 2, code := jdk_43_method_2_code, exceptionTable := #[], attributes := #[] }
def k12m1 : Method := { name := "charAt", desc := "([BI)C", sig := { parameters := [(.array .byte), .int], returnType := some .char }, accessFlags := 9, code := some k12c1 }
/-- java/lang/StringLatin1 -/
def k12 : Class := { plain "java/lang/StringLatin1" (some 0) with
  accessFlags := 48
  interfaces := #[]
  cf := some (fileOf pool12 14 #[.nestMembers #[390, 221]] #[{ accessFlags := 0, nameIndex := 7, descriptorIndex := 8, attributes := #[] }, { accessFlags := 9, nameIndex := 252, descriptorIndex := 53, attributes := #[] }] 48 4 #[] #[{ accessFlags := 4120, nameIndex := 121, descriptorIndex := 122, attributes := #[] }])
  fields := #[{ name := "$assertionsDisabled", type := .boolean, accessFlags := 4120, slot := 0, constantValue := 0 }]
  methods := #[k12m0, k12m1]
  instanceTypes := #[]
  staticTypes := #[.boolean]
  resolved := Array.replicate 395 none
  statics := none }

def pool13 : Array CpInfo := pool [(9, u "<init>"), (6, .class_ 18), (1, u "java/lang/Object"), (0, u "()V"), (1, .class_ 23), (1, u "jdk/internal/util/ArraysSupport"), (0, u "LOG2_ARRAY_LONG_INDEX_SCALE"), (0, u "I"), (2, u "U"), (0, u "Ljdk/internal/misc/Unsafe;"), (8, u "BIG_ENDIAN"), (0, u "Z"), (8, u "LOG2_BYTE_BIT_SIZE"), (4, u "LOG2_ARRAY_INT_INDEX_SCALE"), (54, u "JLA"), (0, u "Ljdk/internal/access/JavaLangAccess;"), (11, u "LOG2_ARRAY_BOOLEAN_INDEX_SCALE"), (9, u "LOG2_ARRAY_BYTE_INDEX_SCALE"), (5, u "LOG2_ARRAY_CHAR_INDEX_SCALE"), (5, u "LOG2_ARRAY_SHORT_INDEX_SCALE"), (18, u "LOG2_ARRAY_FLOAT_INDEX_SCALE"), (24, u "LOG2_ARRAY_DOUBLE_INDEX_SCALE"), (89, u "T_BOOLEAN"), (2, u "T_CHAR"), (1, u "T_FLOAT"), (1, u "T_DOUBLE"), (1, u "T_BYTE"), (1, u "T_SHORT"), (1, u "T_INT"), (1, u "T_LONG"), (1, u "SOFT_MAX_ARRAY_LENGTH")] 83

def k13m0 : Method := { name := "<init>", desc := "()V", sig := { parameters := [], returnType := none }, accessFlags := 2, code := none }
/-- jdk/internal/util/ArraysSupport -/
def k13 : Class := { plain "jdk/internal/util/ArraysSupport" (some 0) with
  accessFlags := 33
  interfaces := #[]
  cf := some (fileOf pool13 21 #[] #[{ accessFlags := 2, nameIndex := 9, descriptorIndex := 19, attributes := #[] }] 33 16 #[] #[{ accessFlags := 24, nameIndex := 28, descriptorIndex := 29, attributes := #[] }, { accessFlags := 26, nameIndex := 38, descriptorIndex := 39, attributes := #[] }, { accessFlags := 25, nameIndex := 121, descriptorIndex := 25, attributes := #[] }, { accessFlags := 25, nameIndex := 131, descriptorIndex := 25, attributes := #[] }, { accessFlags := 25, nameIndex := 137, descriptorIndex := 25, attributes := #[] }, { accessFlags := 25, nameIndex := 143, descriptorIndex := 25, attributes := #[] }, { accessFlags := 25, nameIndex := 53, descriptorIndex := 25, attributes := #[] }, { accessFlags := 25, nameIndex := 24, descriptorIndex := 25, attributes := #[] }, { accessFlags := 25, nameIndex := 162, descriptorIndex := 25, attributes := #[] }, { accessFlags := 25, nameIndex := 187, descriptorIndex := 25, attributes := #[] }, { accessFlags := 26, nameIndex := 48, descriptorIndex := 25, attributes := #[] }, { accessFlags := 25, nameIndex := 277, descriptorIndex := 25, attributes := #[] }, { accessFlags := 25, nameIndex := 280, descriptorIndex := 25, attributes := #[] }, { accessFlags := 25, nameIndex := 282, descriptorIndex := 25, attributes := #[] }, { accessFlags := 25, nameIndex := 284, descriptorIndex := 25, attributes := #[] }, { accessFlags := 25, nameIndex := 286, descriptorIndex := 25, attributes := #[] }, { accessFlags := 25, nameIndex := 288, descriptorIndex := 25, attributes := #[] }, { accessFlags := 25, nameIndex := 290, descriptorIndex := 25, attributes := #[] }, { accessFlags := 25, nameIndex := 292, descriptorIndex := 25, attributes := #[] }, { accessFlags := 26, nameIndex := 108, descriptorIndex := 109, attributes := #[] }, { accessFlags := 25, nameIndex := 294, descriptorIndex := 25, attributes := #[] }])
  fields := #[{ name := "U", type := (.object "jdk/internal/misc/Unsafe"), accessFlags := 24, slot := 0, constantValue := 0 }, { name := "BIG_ENDIAN", type := .boolean, accessFlags := 26, slot := 1, constantValue := 0 }, { name := "LOG2_ARRAY_BOOLEAN_INDEX_SCALE", type := .int, accessFlags := 25, slot := 2, constantValue := 0 }, { name := "LOG2_ARRAY_BYTE_INDEX_SCALE", type := .int, accessFlags := 25, slot := 3, constantValue := 0 }, { name := "LOG2_ARRAY_CHAR_INDEX_SCALE", type := .int, accessFlags := 25, slot := 4, constantValue := 0 }, { name := "LOG2_ARRAY_SHORT_INDEX_SCALE", type := .int, accessFlags := 25, slot := 5, constantValue := 0 }, { name := "LOG2_ARRAY_INT_INDEX_SCALE", type := .int, accessFlags := 25, slot := 6, constantValue := 0 }, { name := "LOG2_ARRAY_LONG_INDEX_SCALE", type := .int, accessFlags := 25, slot := 7, constantValue := 0 }, { name := "LOG2_ARRAY_FLOAT_INDEX_SCALE", type := .int, accessFlags := 25, slot := 8, constantValue := 0 }, { name := "LOG2_ARRAY_DOUBLE_INDEX_SCALE", type := .int, accessFlags := 25, slot := 9, constantValue := 0 }, { name := "LOG2_BYTE_BIT_SIZE", type := .int, accessFlags := 26, slot := 10, constantValue := 0 }, { name := "T_BOOLEAN", type := .int, accessFlags := 25, slot := 11, constantValue := 0 }, { name := "T_CHAR", type := .int, accessFlags := 25, slot := 12, constantValue := 0 }, { name := "T_FLOAT", type := .int, accessFlags := 25, slot := 13, constantValue := 0 }, { name := "T_DOUBLE", type := .int, accessFlags := 25, slot := 14, constantValue := 0 }, { name := "T_BYTE", type := .int, accessFlags := 25, slot := 15, constantValue := 0 }, { name := "T_SHORT", type := .int, accessFlags := 25, slot := 16, constantValue := 0 }, { name := "T_INT", type := .int, accessFlags := 25, slot := 17, constantValue := 0 }, { name := "T_LONG", type := .int, accessFlags := 25, slot := 18, constantValue := 0 }, { name := "JLA", type := (.object "jdk/internal/access/JavaLangAccess"), accessFlags := 26, slot := 19, constantValue := 0 }, { name := "SOFT_MAX_ARRAY_LENGTH", type := .int, accessFlags := 25, slot := 20, constantValue := 0 }]
  methods := #[k13m0]
  instanceTypes := #[]
  staticTypes := #[(.object "jdk/internal/misc/Unsafe"), .boolean, .int, .int, .int, .int, .int, .int, .int, .int, .int, .int, .int, .int, .int, .int, .int, .int, .int, (.object "jdk/internal/access/JavaLangAccess"), .int]
  resolved := Array.replicate 378 none
  statics := none }

def pool14 : Array CpInfo := pool [(1, u "java/lang/Cloneable"), (0, .class_ 1), (0, u "java/lang/Object"), (0, .class_ 3)] 3

/-- java/lang/Cloneable -/
def k14 : Class := { plain "java/lang/Cloneable" (some 0) with
  accessFlags := 1537
  interfaces := #[]
  cf := some (fileOf pool14 2 #[] #[] 1537 4 #[] #[])
  fields := #[]
  methods := #[]
  instanceTypes := #[]
  staticTypes := #[]
  resolved := Array.replicate 8 none
  statics := none }

/-- the primitive byte -/
def k15 : Class := { plain "byte" none with kind := .primitive 'B', accessFlags := 0x411 }
/-- [B -/
def k16 : Class := { plain "[B" (some 0) with kind := .array 15 .byte, interfaces := #[14, 2], accessFlags := 1041 }

/-- the primitive char -/
def k17 : Class := { plain "char" none with kind := .primitive 'C', accessFlags := 0x411 }
/-- [C -/
def k18 : Class := { plain "[C" (some 0) with kind := .array 17 .char, interfaces := #[14, 2], accessFlags := 1041 }

/-- the primitive int -/
def k19 : Class := { plain "int" none with kind := .primitive 'I', accessFlags := 0x411 }
/-- [I -/
def k20 : Class := { plain "[I" (some 0) with kind := .array 19 .int, interfaces := #[14, 2], accessFlags := 1041 }

def heap : Heap := #[{ cls := 7, slots := #[.long 0, .int 1, .null, .int 0, .null, .int 0, .int 0], vm := .statics 7 },
  { cls := 8, slots := #[.int 0, .int 8, .int 0, .int 1], vm := .statics 8 },
  { cls := 10, slots := #[.null, .null, .null], vm := .statics 10 }]
def classes : Array Class := #[k0, k1, k2, k3, k4, k5, k6, k7, k8, k9, k10, k11, k12, k13, k14, k15, k16, k17, k18, k19, k20]
def interned : List (Array UInt16 × Addr) := []
def slotsUsed : Nat := 14
def theMethod : MethodId := ⟨1, 6⟩
def args0 : Array Value := #[.int 5, .int 1, .int 66, .int 1]
def aboutOver (below : List Frame) : State where
  vm := { classes := classes, interned := interned.toArray }
  heap := heap
  slotsUsed := slotsUsed
  threads := #[{ frames := .invoking theMethod args0 :: below }]
def below0 : List Frame := [.native { method := ⟨0, 0⟩, args := #[] }]
def about1 : State := aboutOver below0
def p0 : Program := .bare "" "" ""
def e0 : Env := launch0.env 0 0 0
theorem w_frames : about1.frames = Frame.invoking theMethod args0 :: below0 := rfl
set_option maxRecDepth 65536 in
theorem w_args : argsFit about1.vm theMethod args0 = true := by decide +kernel
set_option maxRecDepth 65536 in
theorem w_heap : heapFits about1 = true := by decide +kernel
set_option maxRecDepth 65536 in
theorem w_runnable : about1.curStatus? = some .runnable := by decide +kernel
set_option maxRecDepth 65536 in
theorem w_alone : about1.alone = true := by decide +kernel
set_option maxRecDepth 65536 in
theorem w_named : about1.methodNamed? x = some theMethod := by decide +kernel
set_option maxRecDepth 65536 in
theorem w_hears : about1.hears theMethod below0 = true := by decide +kernel
set_option maxRecDepth 65536 in
theorem w_ripe : about1.ripe theMethod args0 below0 = true := by decide +kernel
theorem w_running : about1.status = .running := rfl
set_option maxRecDepth 65536 in
theorem w_room : about1.hasRoom e0.platform room_1 = true :=
  launch0.hasRoom_least _ room_1 (by decide +kernel) (by decide +kernel) (by decide +kernel) (by decide +kernel) (by decide +kernel) (by decide +kernel)
theorem allAtoms_all (ts : List Jvm.Cond) (a : Array Jvm.Value) (st : Jvm.State) : (allAtoms ts).before a st = ts.all (fun c => c.before a st) := by
  induction ts with
  | nil => rfl
  | cons c t ih =>
    show (Jvm.Cond.and c (allAtoms t)).before a st = _
    rw [Jvm.Cond.before_and, ih, List.all_cons]
def words1 : List Jvm.Cond := Jvm.Cond.code x code maxLocals ret :: tables_1
/-- a 'code' word, met by the world's own term for the bytes: nothing is compared byte by byte -/
theorem code_word {y : MethodName} {bytes : ByteArray} {mx : Nat} {rt : Option FieldType} {a : Array Value} {s : State} {m : MethodId} {meth : Method} {c : Code} (h1 : s.methodNamed? y = some m) (h2 : s.vm.method? m = some meth) (h3 : meth.code = some c) (h4 : c.code = bytes)
    (h5 : (c.maxLocals == mx && c.exceptionTable.isEmpty && decide (c.maxStack ≤ mostOperands) && decide (meth.sig.returnType = rt) && !meth.locks && decide (parseMethodDescriptor y.desc = some meth.sig)) = true) : (Jvm.Cond.code y bytes mx rt).before a s = true := by
  simp only [Bool.and_eq_true, beq_iff_eq, Bool.not_eq_true', decide_eq_true_eq] at h5
  obtain ⟨⟨⟨⟨⟨g1, g2⟩, g3⟩, g4⟩, g5⟩, g6⟩ := h5
  simp [Cond.before, Cond.holds, Cond.value, h1, h2, h3, h4, g1, g2, g3, g4, g5, g6]
def isCode : Jvm.Cond → Bool
  | .code _ _ _ _ => true
  | _ => false
theorem all_split {L : List Jvm.Cond} {P : Jvm.Cond → Bool} (h1 : L.all (fun c => isCode c || P c) = true) (h2 : ∀ c ∈ L.filter isCode, P c = true) : L.all P = true := by
  refine List.all_eq_true.mpr fun c hc => ?_
  have h := List.all_eq_true.mp h1 c hc
  rcases Bool.eq_false_or_eq_true (isCode c) with hi | hi
  · exact h2 c (List.mem_filter.mpr ⟨hc, hi⟩)
  · simpa [hi] using h
set_option maxRecDepth 65536 in
theorem w_c0 : (Jvm.Cond.code x code maxLocals ret).before args0 about1 = true := code_word (m := ⟨1, 6⟩) (meth := k1m6) (c := k1c6) (by decide +kernel) rfl rfl rfl (by decide +kernel)
set_option maxRecDepth 65536 in
theorem w_c1 : (Jvm.Cond.code ({ cls := "com/example/shelfwright/shelfwright/catalog/TextsIsUnicodePinLaw", name := "mk", desc := "(I)C" } : Jvm.MethodName) method_2_code (3 : Nat) (Option.some Jvm.ClassFile.FieldType.char)).before args0 about1 = true := code_word (m := ⟨1, 1⟩) (meth := k1m1) (c := k1c1) (by decide +kernel) rfl rfl rfl (by decide +kernel)
set_option maxRecDepth 65536 in
theorem w_c2 : (Jvm.Cond.code ({ cls := "com/example/shelfwright/shelfwright/catalog/TextsIsUnicodePinLaw", name := "sur", desc := "(C)Z" } : Jvm.MethodName) method_5_code (1 : Nat) (Option.some Jvm.ClassFile.FieldType.boolean)).before args0 about1 = true := code_word (m := ⟨1, 4⟩) (meth := k1m4) (c := k1c4) (by decide +kernel) rfl rfl rfl (by decide +kernel)
set_option maxRecDepth 65536 in
theorem w_c3 : (Jvm.Cond.code ({ cls := "com/example/shelfwright/shelfwright/catalog/TextsIsUnicodePinLaw", name := "high", desc := "(C)Z" } : Jvm.MethodName) method_3_code (1 : Nat) (Option.some Jvm.ClassFile.FieldType.boolean)).before args0 about1 = true := code_word (m := ⟨1, 2⟩) (meth := k1m2) (c := k1c2) (by decide +kernel) rfl rfl rfl (by decide +kernel)
set_option maxRecDepth 65536 in
theorem w_c4 : (Jvm.Cond.code ({ cls := "java/lang/String", name := "<init>", desc := "([C)V" } : Jvm.MethodName) jdk_42_method_3_code (2 : Nat) (Option.none : Option Jvm.ClassFile.FieldType)).before args0 about1 = true := code_word (m := ⟨7, 1⟩) (meth := k7m1) (c := k7c1) (by decide +kernel) rfl rfl rfl (by decide +kernel)
set_option maxRecDepth 65536 in
theorem w_c5 : (Jvm.Cond.code ({ cls := "java/lang/String", name := "<init>", desc := "([CIILjava/lang/Void;)V" } : Jvm.MethodName) jdk_42_method_149_code (6 : Nat) (Option.none : Option Jvm.ClassFile.FieldType)).before args0 about1 = true := code_word (m := ⟨7, 4⟩) (meth := k7m4) (c := k7c4) (by decide +kernel) rfl rfl rfl (by decide +kernel)
set_option maxRecDepth 65536 in
theorem w_c6 : (Jvm.Cond.code ({ cls := "java/lang/Object", name := "<init>", desc := "()V" } : Jvm.MethodName) object_method_1_code (1 : Nat) (Option.none : Option Jvm.ClassFile.FieldType)).before args0 about1 = true := code_word (m := ⟨0, 0⟩) (meth := k0m0) (c := k0c0) (by decide +kernel) rfl rfl rfl (by decide +kernel)
set_option maxRecDepth 65536 in
theorem w_c7 : (Jvm.Cond.code ({ cls := "java/lang/StringUTF16", name := "compress", desc := "([CII)[B" } : Jvm.MethodName) jdk_52_method_16_code (6 : Nat) (Option.some (Jvm.ClassFile.FieldType.array Jvm.ClassFile.FieldType.byte))).before args0 about1 = true := code_word (m := ⟨8, 8⟩) (meth := k8m8) (c := k8c8) (by decide +kernel) rfl rfl rfl (by decide +kernel)
set_option maxRecDepth 65536 in
theorem w_c8 : (Jvm.Cond.code ({ cls := "java/lang/StringUTF16", name := "compress", desc := "([CI[BII)I" } : Jvm.MethodName) jdk_52_method_21_code (7 : Nat) (Option.some Jvm.ClassFile.FieldType.int)).before args0 about1 = true := code_word (m := ⟨8, 9⟩) (meth := k8m9) (c := k8c9) (by decide +kernel) rfl rfl rfl (by decide +kernel)
set_option maxRecDepth 65536 in
theorem w_c9 : (Jvm.Cond.code ({ cls := "java/lang/StringUTF16", name := "toBytes", desc := "([CII)[B" } : Jvm.MethodName) jdk_52_method_14_code (5 : Nat) (Option.some (Jvm.ClassFile.FieldType.array Jvm.ClassFile.FieldType.byte))).before args0 about1 = true := code_word (m := ⟨8, 6⟩) (meth := k8m6) (c := k8c6) (by decide +kernel) rfl rfl rfl (by decide +kernel)
set_option maxRecDepth 65536 in
theorem w_c10 : (Jvm.Cond.code ({ cls := "java/lang/StringUTF16", name := "newBytesFor", desc := "(I)[B" } : Jvm.MethodName) jdk_52_method_2_code (1 : Nat) (Option.some (Jvm.ClassFile.FieldType.array Jvm.ClassFile.FieldType.byte))).before args0 about1 = true := code_word (m := ⟨8, 1⟩) (meth := k8m1) (c := k8c1) (by decide +kernel) rfl rfl rfl (by decide +kernel)
set_option maxRecDepth 65536 in
theorem w_c11 : (Jvm.Cond.code ({ cls := "java/lang/StringUTF16", name := "newBytesLength", desc := "(I)I" } : Jvm.MethodName) jdk_52_method_3_code (1 : Nat) (Option.some Jvm.ClassFile.FieldType.int)).before args0 about1 = true := code_word (m := ⟨8, 2⟩) (meth := k8m2) (c := k8c2) (by decide +kernel) rfl rfl rfl (by decide +kernel)
set_option maxRecDepth 65536 in
theorem w_c12 : (Jvm.Cond.code ({ cls := "java/lang/StringUTF16", name := "putChar", desc := "([BII)V" } : Jvm.MethodName) jdk_52_method_4_code (3 : Nat) (Option.none : Option Jvm.ClassFile.FieldType)).before args0 about1 = true := code_word (m := ⟨8, 3⟩) (meth := k8m3) (c := k8c3) (by decide +kernel) rfl rfl rfl (by decide +kernel)
set_option maxRecDepth 65536 in
theorem w_c13 : (Jvm.Cond.code ({ cls := "java/lang/StringUTF16", name := "getChar", desc := "([BI)C" } : Jvm.MethodName) jdk_52_method_5_code (2 : Nat) (Option.some Jvm.ClassFile.FieldType.char)).before args0 about1 = true := code_word (m := ⟨8, 4⟩) (meth := k8m4) (c := k8c4) (by decide +kernel) rfl rfl rfl (by decide +kernel)
set_option maxRecDepth 65536 in
theorem w_c14 : (Jvm.Cond.code ({ cls := "java/lang/StringUTF16", name := "coderFromArrayLen", desc := "([BI)B" } : Jvm.MethodName) jdk_52_method_15_code (2 : Nat) (Option.some Jvm.ClassFile.FieldType.byte)).before args0 about1 = true := code_word (m := ⟨8, 7⟩) (meth := k8m7) (c := k8c7) (by decide +kernel) rfl rfl rfl (by decide +kernel)
set_option maxRecDepth 65536 in
theorem w_c15 : (Jvm.Cond.code ({ cls := "com/example/shelfwright/shelfwright/catalog/Texts", name := "isUnicode", desc := "(Ljava/lang/String;)Z" } : Jvm.MethodName) prog_21_method_2_code (2 : Nat) (Option.some Jvm.ClassFile.FieldType.boolean)).before args0 about1 = true := code_word (m := ⟨9, 1⟩) (meth := k9m1) (c := k9c1) (by decide +kernel) rfl rfl rfl (by decide +kernel)
set_option maxRecDepth 65536 in
theorem w_c16 : (Jvm.Cond.code ({ cls := "java/lang/String", name := "length", desc := "()I" } : Jvm.MethodName) jdk_42_method_54_code (1 : Nat) (Option.some Jvm.ClassFile.FieldType.int)).before args0 about1 = true := code_word (m := ⟨7, 2⟩) (meth := k7m2) (c := k7c2) (by decide +kernel) rfl rfl rfl (by decide +kernel)
set_option maxRecDepth 65536 in
theorem w_c17 : (Jvm.Cond.code ({ cls := "java/lang/String", name := "coder", desc := "()B" } : Jvm.MethodName) jdk_42_method_152_code (1 : Nat) (Option.some Jvm.ClassFile.FieldType.byte)).before args0 about1 = true := code_word (m := ⟨7, 5⟩) (meth := k7m5) (c := k7c5) (by decide +kernel) rfl rfl rfl (by decide +kernel)
set_option maxRecDepth 65536 in
theorem w_c18 : (Jvm.Cond.code ({ cls := "com/example/shelfwright/shelfwright/catalog/Texts", name := "isLoneSurrogate", desc := "(Ljava/lang/CharSequence;I)Z" } : Jvm.MethodName) prog_21_method_4_code (3 : Nat) (Option.some Jvm.ClassFile.FieldType.boolean)).before args0 about1 = true := code_word (m := ⟨9, 2⟩) (meth := k9m2) (c := k9c2) (by decide +kernel) rfl rfl rfl (by decide +kernel)
set_option maxRecDepth 65536 in
theorem w_c19 : (Jvm.Cond.code ({ cls := "java/lang/String", name := "charAt", desc := "(I)C" } : Jvm.MethodName) jdk_42_method_56_code (2 : Nat) (Option.some Jvm.ClassFile.FieldType.char)).before args0 about1 = true := code_word (m := ⟨7, 3⟩) (meth := k7m3) (c := k7c3) (by decide +kernel) rfl rfl rfl (by decide +kernel)
set_option maxRecDepth 65536 in
theorem w_c20 : (Jvm.Cond.code ({ cls := "java/lang/String", name := "isLatin1", desc := "()Z" } : Jvm.MethodName) jdk_42_method_154_code (1 : Nat) (Option.some Jvm.ClassFile.FieldType.boolean)).before args0 about1 = true := code_word (m := ⟨7, 6⟩) (meth := k7m6) (c := k7c6) (by decide +kernel) rfl rfl rfl (by decide +kernel)
set_option maxRecDepth 65536 in
theorem w_c21 : (Jvm.Cond.code ({ cls := "java/lang/StringUTF16", name := "charAt", desc := "([BI)C" } : Jvm.MethodName) jdk_52_method_83_code (2 : Nat) (Option.some Jvm.ClassFile.FieldType.char)).before args0 about1 = true := code_word (m := ⟨8, 10⟩) (meth := k8m10) (c := k8c10) (by decide +kernel) rfl rfl rfl (by decide +kernel)
set_option maxRecDepth 65536 in
theorem w_c22 : (Jvm.Cond.code ({ cls := "java/lang/StringUTF16", name := "checkIndex", desc := "(I[B)V" } : Jvm.MethodName) jdk_52_method_91_code (2 : Nat) (Option.none : Option Jvm.ClassFile.FieldType)).before args0 about1 = true := code_word (m := ⟨8, 11⟩) (meth := k8m11) (c := k8c11) (by decide +kernel) rfl rfl rfl (by decide +kernel)
set_option maxRecDepth 65536 in
theorem w_c23 : (Jvm.Cond.code ({ cls := "java/lang/StringUTF16", name := "length", desc := "([B)I" } : Jvm.MethodName) jdk_52_method_6_code (1 : Nat) (Option.some Jvm.ClassFile.FieldType.int)).before args0 about1 = true := code_word (m := ⟨8, 5⟩) (meth := k8m5) (c := k8c5) (by decide +kernel) rfl rfl rfl (by decide +kernel)
set_option maxRecDepth 65536 in
theorem w_c24 : (Jvm.Cond.code ({ cls := "java/lang/String", name := "checkIndex", desc := "(II)V" } : Jvm.MethodName) jdk_42_method_155_code (2 : Nat) (Option.none : Option Jvm.ClassFile.FieldType)).before args0 about1 = true := code_word (m := ⟨7, 7⟩) (meth := k7m7) (c := k7c7) (by decide +kernel) rfl rfl rfl (by decide +kernel)
set_option maxRecDepth 65536 in
theorem w_c25 : (Jvm.Cond.code ({ cls := "jdk/internal/util/Preconditions", name := "checkIndex", desc := "(IILjava/util/function/BiFunction;)I" } : Jvm.MethodName) jdk_41_method_11_code (3 : Nat) (Option.some Jvm.ClassFile.FieldType.int)).before args0 about1 = true := code_word (m := ⟨10, 1⟩) (meth := k10m1) (c := k10c1) (by decide +kernel) rfl rfl rfl (by decide +kernel)
set_option maxRecDepth 65536 in
theorem w_c26 : (Jvm.Cond.code ({ cls := "java/lang/Character", name := "isHighSurrogate", desc := "(C)Z" } : Jvm.MethodName) jdk_89_method_14_code (1 : Nat) (Option.some Jvm.ClassFile.FieldType.boolean)).before args0 about1 = true := code_word (m := ⟨11, 0⟩) (meth := k11m0) (c := k11c0) (by decide +kernel) rfl rfl rfl (by decide +kernel)
set_option maxRecDepth 65536 in
theorem w_c27 : (Jvm.Cond.code ({ cls := "com/example/shelfwright/shelfwright/catalog/TextsIsUnicodePinLaw", name := "pair", desc := "(CC)Z" } : Jvm.MethodName) method_6_code (2 : Nat) (Option.some Jvm.ClassFile.FieldType.boolean)).before args0 about1 = true := code_word (m := ⟨1, 5⟩) (meth := k1m5) (c := k1c5) (by decide +kernel) rfl rfl rfl (by decide +kernel)
set_option maxRecDepth 65536 in
theorem w_c28 : (Jvm.Cond.code ({ cls := "com/example/shelfwright/shelfwright/catalog/TextsIsUnicodePinLaw", name := "low", desc := "(C)Z" } : Jvm.MethodName) method_4_code (1 : Nat) (Option.some Jvm.ClassFile.FieldType.boolean)).before args0 about1 = true := code_word (m := ⟨1, 3⟩) (meth := k1m3) (c := k1c3) (by decide +kernel) rfl rfl rfl (by decide +kernel)
set_option maxRecDepth 65536 in
theorem w_c29 : (Jvm.Cond.code ({ cls := "java/lang/Character", name := "isLowSurrogate", desc := "(C)Z" } : Jvm.MethodName) jdk_89_method_15_code (1 : Nat) (Option.some Jvm.ClassFile.FieldType.boolean)).before args0 about1 = true := code_word (m := ⟨11, 1⟩) (meth := k11m1) (c := k11c1) (by decide +kernel) rfl rfl rfl (by decide +kernel)
set_option maxRecDepth 65536 in
theorem w_c30 : (Jvm.Cond.code ({ cls := "java/lang/StringLatin1", name := "charAt", desc := "([BI)C" } : Jvm.MethodName) jdk_43_method_2_code (2 : Nat) (Option.some Jvm.ClassFile.FieldType.char)).before args0 about1 = true := code_word (m := ⟨12, 1⟩) (meth := k12m1) (c := k12c1) (by decide +kernel) rfl rfl rfl (by decide +kernel)
def codes1 : List Jvm.Cond := [Jvm.Cond.code x code maxLocals ret, Jvm.Cond.code ({ cls := "com/example/shelfwright/shelfwright/catalog/TextsIsUnicodePinLaw", name := "mk", desc := "(I)C" } : Jvm.MethodName) method_2_code (3 : Nat) (Option.some Jvm.ClassFile.FieldType.char), Jvm.Cond.code ({ cls := "com/example/shelfwright/shelfwright/catalog/TextsIsUnicodePinLaw", name := "sur", desc := "(C)Z" } : Jvm.MethodName) method_5_code (1 : Nat) (Option.some Jvm.ClassFile.FieldType.boolean), Jvm.Cond.code ({ cls := "com/example/shelfwright/shelfwright/catalog/TextsIsUnicodePinLaw", name := "high", desc := "(C)Z" } : Jvm.MethodName) method_3_code (1 : Nat) (Option.some Jvm.ClassFile.FieldType.boolean), Jvm.Cond.code ({ cls := "java/lang/String", name := "<init>", desc := "([C)V" } : Jvm.MethodName) jdk_42_method_3_code (2 : Nat) (Option.none : Option Jvm.ClassFile.FieldType), Jvm.Cond.code ({ cls := "java/lang/String", name := "<init>", desc := "([CIILjava/lang/Void;)V" } : Jvm.MethodName) jdk_42_method_149_code (6 : Nat) (Option.none : Option Jvm.ClassFile.FieldType), Jvm.Cond.code ({ cls := "java/lang/Object", name := "<init>", desc := "()V" } : Jvm.MethodName) object_method_1_code (1 : Nat) (Option.none : Option Jvm.ClassFile.FieldType), Jvm.Cond.code ({ cls := "java/lang/StringUTF16", name := "compress", desc := "([CII)[B" } : Jvm.MethodName) jdk_52_method_16_code (6 : Nat) (Option.some (Jvm.ClassFile.FieldType.array Jvm.ClassFile.FieldType.byte)), Jvm.Cond.code ({ cls := "java/lang/StringUTF16", name := "compress", desc := "([CI[BII)I" } : Jvm.MethodName) jdk_52_method_21_code (7 : Nat) (Option.some Jvm.ClassFile.FieldType.int), Jvm.Cond.code ({ cls := "java/lang/StringUTF16", name := "toBytes", desc := "([CII)[B" } : Jvm.MethodName) jdk_52_method_14_code (5 : Nat) (Option.some (Jvm.ClassFile.FieldType.array Jvm.ClassFile.FieldType.byte)), Jvm.Cond.code ({ cls := "java/lang/StringUTF16", name := "newBytesFor", desc := "(I)[B" } : Jvm.MethodName) jdk_52_method_2_code (1 : Nat) (Option.some (Jvm.ClassFile.FieldType.array Jvm.ClassFile.FieldType.byte)), Jvm.Cond.code ({ cls := "java/lang/StringUTF16", name := "newBytesLength", desc := "(I)I" } : Jvm.MethodName) jdk_52_method_3_code (1 : Nat) (Option.some Jvm.ClassFile.FieldType.int), Jvm.Cond.code ({ cls := "java/lang/StringUTF16", name := "putChar", desc := "([BII)V" } : Jvm.MethodName) jdk_52_method_4_code (3 : Nat) (Option.none : Option Jvm.ClassFile.FieldType), Jvm.Cond.code ({ cls := "java/lang/StringUTF16", name := "getChar", desc := "([BI)C" } : Jvm.MethodName) jdk_52_method_5_code (2 : Nat) (Option.some Jvm.ClassFile.FieldType.char), Jvm.Cond.code ({ cls := "java/lang/StringUTF16", name := "coderFromArrayLen", desc := "([BI)B" } : Jvm.MethodName) jdk_52_method_15_code (2 : Nat) (Option.some Jvm.ClassFile.FieldType.byte), Jvm.Cond.code ({ cls := "com/example/shelfwright/shelfwright/catalog/Texts", name := "isUnicode", desc := "(Ljava/lang/String;)Z" } : Jvm.MethodName) prog_21_method_2_code (2 : Nat) (Option.some Jvm.ClassFile.FieldType.boolean), Jvm.Cond.code ({ cls := "java/lang/String", name := "length", desc := "()I" } : Jvm.MethodName) jdk_42_method_54_code (1 : Nat) (Option.some Jvm.ClassFile.FieldType.int), Jvm.Cond.code ({ cls := "java/lang/String", name := "coder", desc := "()B" } : Jvm.MethodName) jdk_42_method_152_code (1 : Nat) (Option.some Jvm.ClassFile.FieldType.byte), Jvm.Cond.code ({ cls := "com/example/shelfwright/shelfwright/catalog/Texts", name := "isLoneSurrogate", desc := "(Ljava/lang/CharSequence;I)Z" } : Jvm.MethodName) prog_21_method_4_code (3 : Nat) (Option.some Jvm.ClassFile.FieldType.boolean), Jvm.Cond.code ({ cls := "java/lang/String", name := "charAt", desc := "(I)C" } : Jvm.MethodName) jdk_42_method_56_code (2 : Nat) (Option.some Jvm.ClassFile.FieldType.char), Jvm.Cond.code ({ cls := "java/lang/String", name := "isLatin1", desc := "()Z" } : Jvm.MethodName) jdk_42_method_154_code (1 : Nat) (Option.some Jvm.ClassFile.FieldType.boolean), Jvm.Cond.code ({ cls := "java/lang/StringUTF16", name := "charAt", desc := "([BI)C" } : Jvm.MethodName) jdk_52_method_83_code (2 : Nat) (Option.some Jvm.ClassFile.FieldType.char), Jvm.Cond.code ({ cls := "java/lang/StringUTF16", name := "checkIndex", desc := "(I[B)V" } : Jvm.MethodName) jdk_52_method_91_code (2 : Nat) (Option.none : Option Jvm.ClassFile.FieldType), Jvm.Cond.code ({ cls := "java/lang/StringUTF16", name := "length", desc := "([B)I" } : Jvm.MethodName) jdk_52_method_6_code (1 : Nat) (Option.some Jvm.ClassFile.FieldType.int), Jvm.Cond.code ({ cls := "java/lang/String", name := "checkIndex", desc := "(II)V" } : Jvm.MethodName) jdk_42_method_155_code (2 : Nat) (Option.none : Option Jvm.ClassFile.FieldType), Jvm.Cond.code ({ cls := "jdk/internal/util/Preconditions", name := "checkIndex", desc := "(IILjava/util/function/BiFunction;)I" } : Jvm.MethodName) jdk_41_method_11_code (3 : Nat) (Option.some Jvm.ClassFile.FieldType.int), Jvm.Cond.code ({ cls := "java/lang/Character", name := "isHighSurrogate", desc := "(C)Z" } : Jvm.MethodName) jdk_89_method_14_code (1 : Nat) (Option.some Jvm.ClassFile.FieldType.boolean), Jvm.Cond.code ({ cls := "com/example/shelfwright/shelfwright/catalog/TextsIsUnicodePinLaw", name := "pair", desc := "(CC)Z" } : Jvm.MethodName) method_6_code (2 : Nat) (Option.some Jvm.ClassFile.FieldType.boolean), Jvm.Cond.code ({ cls := "com/example/shelfwright/shelfwright/catalog/TextsIsUnicodePinLaw", name := "low", desc := "(C)Z" } : Jvm.MethodName) method_4_code (1 : Nat) (Option.some Jvm.ClassFile.FieldType.boolean), Jvm.Cond.code ({ cls := "java/lang/Character", name := "isLowSurrogate", desc := "(C)Z" } : Jvm.MethodName) jdk_89_method_15_code (1 : Nat) (Option.some Jvm.ClassFile.FieldType.boolean), Jvm.Cond.code ({ cls := "java/lang/StringLatin1", name := "charAt", desc := "([BI)C" } : Jvm.MethodName) jdk_43_method_2_code (2 : Nat) (Option.some Jvm.ClassFile.FieldType.char)]
set_option maxRecDepth 65536 in
theorem codes_eq : words1.filter isCode = codes1 := rfl
theorem w_codes : ∀ c ∈ words1.filter isCode, c.before args0 about1 = true := by
  rw [codes_eq]
  intro c hc
  simp only [codes1, List.mem_cons, List.not_mem_nil, or_false] at hc
  rcases hc with rfl | rfl | rfl | rfl | rfl | rfl | rfl | rfl | rfl | rfl | rfl | rfl | rfl | rfl | rfl | rfl | rfl | rfl | rfl | rfl | rfl | rfl | rfl | rfl | rfl | rfl | rfl | rfl | rfl | rfl | rfl
  · exact w_c0
  · exact w_c1
  · exact w_c2
  · exact w_c3
  · exact w_c4
  · exact w_c5
  · exact w_c6
  · exact w_c7
  · exact w_c8
  · exact w_c9
  · exact w_c10
  · exact w_c11
  · exact w_c12
  · exact w_c13
  · exact w_c14
  · exact w_c15
  · exact w_c16
  · exact w_c17
  · exact w_c18
  · exact w_c19
  · exact w_c20
  · exact w_c21
  · exact w_c22
  · exact w_c23
  · exact w_c24
  · exact w_c25
  · exact w_c26
  · exact w_c27
  · exact w_c28
  · exact w_c29
  · exact w_c30
set_option maxRecDepth 65536 in
theorem w_t1 : (words1.take 24).all (fun c => isCode c || c.before args0 about1) = true := by decide +kernel
set_option maxRecDepth 65536 in
theorem w_t2 : ((words1.drop 24).take 24).all (fun c => isCode c || c.before args0 about1) = true := by decide +kernel
set_option maxRecDepth 65536 in
theorem w_t3 : (((words1.drop 24).drop 24).take 24).all (fun c => isCode c || c.before args0 about1) = true := by decide +kernel
set_option maxRecDepth 65536 in
theorem w_t4 : ((((words1.drop 24).drop 24).drop 24).take 24).all (fun c => isCode c || c.before args0 about1) = true := by decide +kernel
set_option maxRecDepth 65536 in
theorem w_t5 : (((((words1.drop 24).drop 24).drop 24).drop 24).take 24).all (fun c => isCode c || c.before args0 about1) = true := by decide +kernel
set_option maxRecDepth 65536 in
theorem w_t6 : (((((words1.drop 24).drop 24).drop 24).drop 24).drop 24).all (fun c => isCode c || c.before args0 about1) = true := by decide +kernel
theorem w_tables : (allAtoms (Jvm.Cond.code x code maxLocals ret :: tables_1)).before args0 about1 = true := by
  rw [allAtoms_all]
  show words1.all (fun c => c.before args0 about1) = true
  refine all_split ?_ w_codes
  rw [← List.take_append_drop 24 words1, List.all_append, w_t1, ← List.take_append_drop 24 (words1.drop 24), List.all_append, w_t2, ← List.take_append_drop 24 ((words1.drop 24).drop 24), List.all_append, w_t3, ← List.take_append_drop 24 (((words1.drop 24).drop 24).drop 24), List.all_append, w_t4, ← List.take_append_drop 24 ((((words1.drop 24).drop 24).drop 24).drop 24), List.all_append, w_t5, w_t6]
  rfl
set_option maxRecDepth 65536 in
theorem w_rest : rest_1_c.before args0 about1 = true := by decide +kernel
set_option maxRecDepth 65536 in
theorem w_case : (Jvm.Cond.and given_1 narrow_1).before args0 about1 = true := by decide +kernel
set_option maxRecDepth 65536 in
theorem w_consts : constsHeld consts_1 about1 := Jvm.Lit.constsHeldB_iff.mp (by decide +kernel)
theorem w_applies : (headSpec (Jvm.Cond.code x code maxLocals ret :: tables_1) room_1).applies x e0.platform about1 = true :=
  (Spec.applies_iff w_frames).mpr ⟨w_running, w_runnable, w_alone, w_named, w_hears, w_ripe, w_room, w_tables⟩
theorem atStart : AtStart classFile x code maxLocals ret World_1 tables_1 room_1 Calls_1 rest_1 Pre_1 launch0 p0 e0 about1 theMethod args0 below0 :=
  ⟨lists_1, trivial, launch0.admits_env _ _ _, launch0.least_env, fairChoices_fair.cas, fairChoices_fair.clock, w_frames, w_args, w_heap, w_applies, ⟨w_consts, trivial⟩, w_rest, w_case⟩
end start1
theorem witness_1 : WitnessClaimed_1 := ⟨start1.p0, start1.e0, start1.about1, start1.theMethod, start1.args0, start1.below0, start1.atStart⟩
end Jvm.Pilot.@@N@@
