import JvmDerived
import JvmDerived.Pilot.@@N@@Statement
import JvmDerived.Pilot.@@N@@Code
set_option linter.unusedVariables false
set_option linter.unusedSimpArgs false
namespace Jvm.Pilot.@@N@@
/-- the frame is the narrow one -/
def NW : Bool := true
end Jvm.Pilot.@@N@@
/- laws to paste: Road.backV, Road.codOf (cut by pick.py; bodies as the Statement names them) -/
namespace Jvm.Pilot.@@N@@
namespace StrChars
open Jvm Sem ClassFile Op Lib Jvm.Stand Jvm.Free.XT Jvm.Free.ALB Jvm.Free.JM Jvm.Free
open Jvm.Lib.Cold (StaticIs)
/-- a char array whose places are chars -/
def Ch (a : Addr) (A : Cell) (U : State) : Prop := Arr .char a A U ∧ Typed .char A
theorem Ch.mv {a : Addr} {A : Cell} {U U' : State} (h : Ch a A U) (hal : U.vm.Alike U'.vm) (hh : U'.heap = U.heap) : Ch a A U' := ⟨h.1.mv hal hh, h.2⟩
theorem Ch.keep {a : Addr} {A : Cell} {U U' : State} (h : Ch a A U) (hal : U.vm.Alike U'.vm) (hk : U'.heap[a]? = some A) : Ch a A U' := ⟨h.1.keep hal hk, h.2⟩
/-- what place i of a char[]'s cell holds -/
def cv (A : Cell) (i : Nat) : Int32 := match A.slots[i]? with | some (.int x) => x | _ => 0
theorem Ch.get {a : Addr} {A : Cell} {U : State} (h : Ch a A U) {i : Nat} (hi : i < A.slots.size) : A.slots[i]? = some (.int (cv A i)) := by
  have e := Array.getElem?_eq_getElem hi
  have f := h.2 i _ e
  unfold cv; rw [e]
  generalize A.slots[i] = v at f
  cases v <;> simp [fits] at f ⊢
/-- the byte that i2b leaves of a char -/
def lo8 (x : Int32) : Int32 := x.toInt8.toInt32
theorem fits_lo8 (y : Int32) : fits .byte (.int (lo8 y)) = true := by
  have h1 := y.toInt8.le_toInt
  have h2 := y.toInt8.toInt_lt
  simp only [lo8, fits, Bool.and_eq_true, decide_eq_true_eq, Int32.le_iff_toInt_le, Int8.toInt_toInt32, show (-128 : Int32).toInt = -128 from by decide, show (127 : Int32).toInt = 127 from by decide]
  omega
/-- A' is A but that each place j of lo .. hi - 1 holds f j -/
def Laid (A A' : Cell) (lo hi : Nat) (f : Nat → Value) : Prop := A'.cls = A.cls ∧ A'.vm = A.vm ∧ A'.slots.size = A.slots.size ∧ ∀ i, A'.slots[i]? = if lo ≤ i ∧ i < hi then some (f i) else A.slots[i]?
theorem Laid.zero (A : Cell) (lo : Nat) (f : Nat → Value) : Laid A A lo (lo + 0) f := ⟨rfl, rfl, rfl, fun i => by rw [if_neg (by omega)]⟩
theorem Laid.step {A Ak : Cell} {lo k : Nat} {f : Nat → Value} {v : Value} (h : Laid A Ak lo k f) (hlo : lo ≤ k) (hk : k < Ak.slots.size) (hv : v = f k) : Laid A (Ak.setSlot k v) lo (k + 1) f := by
  refine ⟨h.1, h.2.1, by simpa [Cell.setSlot] using h.2.2.1, fun i => ?_⟩
  by_cases e : k = i
  · subst e; rw [Cell.slots_setSlot_self v hk, if_pos (by omega), hv]
  · rw [Cell.slots_setSlot_ne v e, h.2.2.2 i]
    by_cases q : lo ≤ i ∧ i < k
    · rw [if_pos q, if_pos (by omega)]
    · rw [if_neg q, if_neg (by omega)]
def U16 : String := "java/lang/StringUTF16"
namespace Cmp5
def yN : MethodName := ⟨"java/lang/StringUTF16", "compress", "([CI[BII)I"⟩
abbrev yB : ByteArray := jdk_52_method_21_code
theorem d0 : decode yB 0 = .ok (.iconst 0, 1) := by decide +kernel
theorem d1 : decode yB 1 = .ok (.istore 5, 2) := by decide +kernel
theorem d3 : decode yB 3 = .ok (.iload 5, 2) := by decide +kernel
theorem d5 : decode yB 5 = .ok (.iload 4, 2) := by decide +kernel
theorem d7 : decode yB 7 = .ok (.if_icmp (.ge) 37, 3) := by decide +kernel
theorem d10 : decode yB 10 = .ok (.aload_n 0, 1) := by decide +kernel
theorem d11 : decode yB 11 = .ok (.iload_n 1, 1) := by decide +kernel
theorem d12 : decode yB 12 = .ok (.caload, 1) := by decide +kernel
theorem d13 : decode yB 13 = .ok (.istore 6, 2) := by decide +kernel
theorem d15 : decode yB 15 = .ok (.iload 6, 2) := by decide +kernel
theorem d17 : decode yB 17 = .ok (.sipush 255, 3) := by decide +kernel
theorem d20 : decode yB 20 = .ok (.if_icmp (.le) 6, 3) := by decide +kernel
theorem d26 : decode yB 26 = .ok (.aload_n 2, 1) := by decide +kernel
theorem d27 : decode yB 27 = .ok (.iload_n 3, 1) := by decide +kernel
theorem d28 : decode yB 28 = .ok (.iload 6, 2) := by decide +kernel
theorem d30 : decode yB 30 = .ok (.i2b, 1) := by decide +kernel
theorem d31 : decode yB 31 = .ok (.bastore, 1) := by decide +kernel
theorem d32 : decode yB 32 = .ok (.iinc 1 1, 3) := by decide +kernel
theorem d35 : decode yB 35 = .ok (.iinc 3 1, 3) := by decide +kernel
theorem d38 : decode yB 38 = .ok (.iinc 5 1, 3) := by decide +kernel
theorem d41 : decode yB 41 = .ok (.goto (-38), 3) := by decide +kernel
theorem d44 : decode yB 44 = .ok (.iload 4, 2) := by decide +kernel
theorem d46 : decode yB 46 = .ok (.ireturn, 1) := by decide +kernel
def site : List Cond := []
def tab : Cond := tabOf yN yB 7 (some .int) site
def P (b : Addr) (A : Cell) (d : Addr) (B : Cell) (o q len : Nat) (args : Array Value) (s : State) : Prop := args = #[.ref b, .int (Int32.ofNat o), .ref d, .int (Int32.ofNat q), .int (Int32.ofNat len)] ∧ Ch b A s ∧ Arr .byte d B s ∧ b ≠ d ∧ o + len ≤ A.slots.size ∧ q + len ≤ B.slots.size ∧ ∀ i, i < len → ¬ 255 < cv A (o + i)
def E (b : Addr) (A : Cell) (d : Addr) (B : Cell) (o q len : Nat) (r : Option Value) (s u : State) : Prop := r = some (.int (Int32.ofNat len)) ∧ ∃ B', Put d B' s u ∧ Laid B B' q (q + len) (fun j => Value.int (lo8 (cv A (o + (j - q)))))
/-- no char of the range above 255: len; the places written hold each char's low byte -/
theorem law (l : Launch) (b : Addr) (A : Cell) (d : Addr) (B : Cell) (o q len : Nat) : Law l yN 5 5 0 0 yB 7 (some .int) site (P b A d B o q len) (E b A d B o q len) (copyLocs d q len) 0 0 := by
  refine Law.of_walk (plainFor_of_name (by decide +kernel)) (by decide +kernel) (by decide +kernel) (by decide) (fun _ _ h => by rw [h.1]; rfl) (fun _ U U' hal hh h => ⟨h.1, h.2.1.mv hal hh, h.2.2.1.mv hal hh, h.2.2.2⟩) (fun r U U' V V' h1 hal h2 h => ⟨h.1, h.2.elim fun B' q => ⟨B', q.1.mv h1 h2, q.2⟩⟩) ?_
  intro p e s m args below meth c s₁ X0 hexec hbytes hml hret hlk hnm hown hh0 W hP
  obtain ⟨rfl, hA, hB, hne, l1, l2, hp⟩ := hP
  have c1 : Steps p.tables e below (s₁.setTop (entryFrame m #[.ref b, .int (Int32.ofNat o), .ref d, .int (Int32.ofNat q), .int (Int32.ofNat len)] 7)) (s₁.setTop (mkF m 0 #[.val (.ref b), .val (.int (Int32.ofNat o)), .val (.ref d), .val (.int (Int32.ofNat q)), .val (.int (Int32.ofNat len)), .unset, .unset] [])) := entry rfl
  have hA0 := hA.1.mv X0.warmed.alike hh0
  have hB0 := hB.mv X0.warmed.alike hh0
  have a31 := hA.1.2.2.2
  have c2 : Steps p.tables e below (s₁.setTop (entryFrame m #[.ref b, .int (Int32.ofNat o), .ref d, .int (Int32.ofNat q), .int (Int32.ofNat len)] 7)) (s₁.setTop (mkF m 3 #[.val (.ref b), .val (.int (Int32.ofNat o)), .val (.ref d), .val (.int (Int32.ofNat q)), .val (.int (Int32.ofNat len)), .val (.int 0), .unset] [])) := c1.trans (by
    refine iconstV X0.here hexec rfl 0 (hb hbytes d0) (by decide) ?_
    refine XS.istore X0.here hexec rfl (hb hbytes d1) rfl rfl ?_
    exact Steps.refl _)
  have loop : ∀ (r i : Nat), i + r = len → ∀ (z : Slot), (z = .unset ∨ ∃ w, z = .val w ∧ w.category = 1) → ∀ (Tl : State) (Bk : Cell), Stand p l e { frames := 0, locals := 0, cells := 0, slots := 0 } s m #[.ref b, .int (Int32.ofNat o), .ref d, .int (Int32.ofNat q), .int (Int32.ofNat len)] below meth c Tl ([] ++ copyLocs d q i) 0 0 → Put d Bk s₁ Tl → Laid B Bk q (q + i) (fun j => Value.int (lo8 (cv A (o + (j - q))))) →
      Steps p.tables e below (s₁.setTop (entryFrame m #[.ref b, .int (Int32.ofNat o), .ref d, .int (Int32.ofNat q), .int (Int32.ofNat len)] 7)) (Tl.setTop (mkF m 3 #[.val (.ref b), .val (.int (Int32.ofNat (o + i))), .val (.ref d), .val (.int (Int32.ofNat (q + i))), .val (.int (Int32.ofNat len)), .val (.int (Int32.ofNat i)), z] [])) → ∃ (T' : State) (B' : Cell) (z' : Slot), Stand p l e { frames := 0, locals := 0, cells := 0, slots := 0 } s m #[.ref b, .int (Int32.ofNat o), .ref d, .int (Int32.ofNat q), .int (Int32.ofNat len)] below meth c T' ([] ++ copyLocs d q len) 0 0 ∧ Put d B' s₁ T' ∧ Laid B B' q (q + len) (fun j => Value.int (lo8 (cv A (o + (j - q))))) ∧
      Steps p.tables e below (s₁.setTop (entryFrame m #[.ref b, .int (Int32.ofNat o), .ref d, .int (Int32.ofNat q), .int (Int32.ofNat len)] 7)) (T'.setTop (mkF m 3 #[.val (.ref b), .val (.int (Int32.ofNat (o + len))), .val (.ref d), .val (.int (Int32.ofNat (q + len))), .val (.int (Int32.ofNat len)), .val (.int (Int32.ofNat len)), z'] [])) := by
    intro r
    induction r with
    | zero =>
      intro i hi z hz Tl Bk Xl pl fl cl
      have hil : i = len := by omega
      rw [hil] at Xl fl cl
      exact ⟨Tl, Bk, z, Xl, pl, fl, cl⟩
    | succ r ih =>
      intro i hi z hz Tl Bk Xl pl fl cl
      have all := X0.warmed.alike.symm.trans Xl.warmed.alike
      have hAl := hA0.keep all (pl.other hne hA0.1)
      have hBk := hB0.like all pl.1 fl.1 fl.2.1 fl.2.2.1
      have hlt : q + i < Bk.slots.size := by rw [fl.2.2.1]; omega
      have c3 : Steps p.tables e below (s₁.setTop (entryFrame m #[.ref b, .int (Int32.ofNat o), .ref d, .int (Int32.ofNat q), .int (Int32.ofNat len)] 7)) (Tl.setTop (mkF m 12 #[.val (.ref b), .val (.int (Int32.ofNat (o + i))), .val (.ref d), .val (.int (Int32.ofNat (q + i))), .val (.int (Int32.ofNat len)), .val (.int (Int32.ofNat i)), z] [.int (Int32.ofNat (o + i)), .ref b])) := cl.trans (by
        refine XS.iload Xl.here hexec rfl (hb hbytes d3) rfl ?_
        refine XS.iload Xl.here hexec rfl (hb hbytes d5) rfl ?_
        refine XS.icmpNo Xl.here hexec rfl (hb hbytes d7) rfl (ii_ge_f (lt32 (by omega) (by omega))) ?_
        refine XS.aloadN Xl.here hexec rfl (hb hbytes d10) rfl rfl ?_
        refine XS.iloadN Xl.here hexec rfl (hb hbytes d11) rfl ?_
        exact Steps.refl _)
      have c4 : Steps p.tables e below (s₁.setTop (entryFrame m #[.ref b, .int (Int32.ofNat o), .ref d, .int (Int32.ofNat q), .int (Int32.ofNat len)] 7)) (Tl.setTop (mkF m 13 #[.val (.ref b), .val (.int (Int32.ofNat (o + i))), .val (.ref d), .val (.int (Int32.ofNat (q + i))), .val (.int (Int32.ofNat len)), .val (.int (Int32.ofNat i)), z] [.int (cv A (o + i))])) := c3.trans (by
        refine Xl.aget hexec hAl rfl (hA.get (i := o + i) (by omega)) rfl rfl (hb hbytes d12) ?_
        exact Steps.refl _)
      have c5 : Steps p.tables e below (s₁.setTop (entryFrame m #[.ref b, .int (Int32.ofNat o), .ref d, .int (Int32.ofNat q), .int (Int32.ofNat len)] 7)) (Tl.setTop (mkF m 15 #[.val (.ref b), .val (.int (Int32.ofNat (o + i))), .val (.ref d), .val (.int (Int32.ofNat (q + i))), .val (.int (Int32.ofNat len)), .val (.int (Int32.ofNat i)), .val (.int (cv A (o + i)))] [])) := c4.trans (by
        refine XS.istoreS Xl.here hexec rfl (hb hbytes d13) rfl rfl hz ?_
        exact Steps.refl _)
      have c6 : Steps p.tables e below (s₁.setTop (entryFrame m #[.ref b, .int (Int32.ofNat o), .ref d, .int (Int32.ofNat q), .int (Int32.ofNat len)] 7)) (Tl.setTop (mkF m 31 #[.val (.ref b), .val (.int (Int32.ofNat (o + i))), .val (.ref d), .val (.int (Int32.ofNat (q + i))), .val (.int (Int32.ofNat len)), .val (.int (Int32.ofNat i)), .val (.int (cv A (o + i)))] [.int (lo8 (cv A (o + i))), .int (Int32.ofNat (q + i)), .ref d])) := c5.trans (by
        refine XS.iload Xl.here hexec rfl (hb hbytes d15) rfl ?_
        refine sipushV Xl.here hexec rfl 255 (hb hbytes d17) (by decide) ?_
        refine XS.icmpYes Xl.here hexec rfl (pc0 := 20) rfl (hb hbytes d20) rfl (ii_le_t (hp i (by omega))) (by decide) rfl ?_
        refine XS.aloadN Xl.here hexec rfl (hb hbytes d26) rfl rfl ?_
        refine XS.iloadN Xl.here hexec rfl (hb hbytes d27) rfl ?_
        refine XS.iload Xl.here hexec rfl (hb hbytes d28) rfl ?_
        refine i2b Xl.here hexec rfl (hb hbytes d30) rfl ?_
        exact Steps.refl _)
      obtain ⟨T7, X7, p7, st7⟩ := Xl.aput hexec hBk rfl hlt rfl (fits_lo8 (cv A (o + i))) (g := (mkF m 31 #[.val (.ref b), .val (.int (Int32.ofNat (o + i))), .val (.ref d), .val (.int (Int32.ofNat (q + i))), .val (.int (Int32.ofNat len)), .val (.int (Int32.ofNat i)), .val (.int (cv A (o + i)))] [.int (lo8 (cv A (o + i))), .int (Int32.ofNat (q + i)), .ref d])) rfl (rest := []) rfl (hb hbytes d31)
      have c8 : Steps p.tables e below (s₁.setTop (entryFrame m #[.ref b, .int (Int32.ofNat o), .ref d, .int (Int32.ofNat q), .int (Int32.ofNat len)] 7)) (T7.setTop (mkF m 32 #[.val (.ref b), .val (.int (Int32.ofNat (o + i))), .val (.ref d), .val (.int (Int32.ofNat (q + i))), .val (.int (Int32.ofNat len)), .val (.int (Int32.ofNat i)), .val (.int (cv A (o + i)))] [])) := c6.trans (st7 _ (Steps.refl _))
      have c9 : Steps p.tables e below (s₁.setTop (entryFrame m #[.ref b, .int (Int32.ofNat o), .ref d, .int (Int32.ofNat q), .int (Int32.ofNat len)] 7)) (T7.setTop (mkF m 3 #[.val (.ref b), .val (.int (Int32.ofNat (o + i) + 1)), .val (.ref d), .val (.int (Int32.ofNat (q + i) + 1)), .val (.int (Int32.ofNat len)), .val (.int (Int32.ofNat i + 1)), .val (.int (cv A (o + i)))] [])) := c8.trans (by
        refine iincV X7.here hexec rfl 1 (hb hbytes d32) (by decide) rfl rfl ?_
        refine iincV X7.here hexec rfl 1 (hb hbytes d35) (by decide) rfl rfl ?_
        refine iincV X7.here hexec rfl 1 (hb hbytes d38) (by decide) rfl rfl ?_
        refine XS.goto X7.here hexec rfl (pc0 := 41) rfl (hb hbytes d41) (by decide) rfl ?_
        exact Steps.refl _)
      have c10 : Steps p.tables e below (s₁.setTop (entryFrame m #[.ref b, .int (Int32.ofNat o), .ref d, .int (Int32.ofNat q), .int (Int32.ofNat len)] 7)) (T7.setTop (mkF m 3 #[.val (.ref b), .val (.int (Int32.ofNat (o + (i + 1)))), .val (.ref d), .val (.int (Int32.ofNat (q + (i + 1)))), .val (.int (Int32.ofNat len)), .val (.int (Int32.ofNat (i + 1))), .val (.int (cv A (o + i)))] [])) := by
        have := c9
        rw [succ32, succ32, succ32] at this
        exact this
      exact ih (i + 1) (by omega) _ (Or.inr ⟨_, rfl, rfl⟩) T7 _ (by rw [copyLocs_step, ← List.append_assoc]; exact X7) (pl.trans p7) (fl.step (by omega) hlt (by simp)) c10
  obtain ⟨T9, B9, z9, X9, p9, f9, g9⟩ := loop len 0 (by omega) .unset (Or.inl rfl) s₁ B (by simpa [copyLocs] using X0) ⟨hB0.1, fun _ _ => rfl, rfl⟩ (Laid.zero _ _ _) c2
  have c11 : Steps p.tables e below (s₁.setTop (entryFrame m #[.ref b, .int (Int32.ofNat o), .ref d, .int (Int32.ofNat q), .int (Int32.ofNat len)] 7)) (T9.setTop (mkF m 46 #[.val (.ref b), .val (.int (Int32.ofNat (o + len))), .val (.ref d), .val (.int (Int32.ofNat (q + len))), .val (.int (Int32.ofNat len)), .val (.int (Int32.ofNat len)), z9] [.int (Int32.ofNat len)])) := g9.trans (by
    refine XS.iload X9.here hexec rfl (hb hbytes d3) rfl ?_
    refine XS.iload X9.here hexec rfl (hb hbytes d5) rfl ?_
    refine XS.icmpYes X9.here hexec rfl (pc0 := 7) rfl (hb hbytes d7) rfl (ii_ge_t (nlt32 (by omega) (Nat.le_refl _))) (by decide) rfl ?_
    refine XS.iload X9.here hexec rfl (hb hbytes d44) rfl ?_
    exact Steps.refl _)
  exact ⟨T9, some (.int (Int32.ofNat len)), _, _, _, X9, by simp, rfl, rfl, (fun h => by cases h), ⟨rfl, B9, p9.from hh0, f9⟩, fun fs hl => c11.trans (X9.ireturnOut hexec hret rfl (Or.inl rfl) (hb hbytes d46) hl)⟩
end Cmp5
namespace Cmp3
def yN : MethodName := ⟨"java/lang/StringUTF16", "compress", "([CII)[B"⟩
abbrev yB : ByteArray := jdk_52_method_16_code
theorem d0 : decode yB 0 = .ok (.iload_n 2, 1) := by decide +kernel
theorem d1 : decode yB 1 = .ok (.newarray .byte, 2) := by decide +kernel
theorem d3 : decode yB 3 = .ok (.astore_n 3, 1) := by decide +kernel
theorem d4 : decode yB 4 = .ok (.aload_n 0, 1) := by decide +kernel
theorem d5 : decode yB 5 = .ok (.iload_n 1, 1) := by decide +kernel
theorem d6 : decode yB 6 = .ok (.aload_n 3, 1) := by decide +kernel
theorem d7 : decode yB 7 = .ok (.iconst 0, 1) := by decide +kernel
theorem d8 : decode yB 8 = .ok (.iload_n 2, 1) := by decide +kernel
theorem d9 : decode yB 9 = .ok (.invokestatic 115, 3) := by decide +kernel
theorem d12 : decode yB 12 = .ok (.istore 4, 2) := by decide +kernel
theorem d14 : decode yB 14 = .ok (.iload 4, 2) := by decide +kernel
theorem d16 : decode yB 16 = .ok (.iload_n 2, 1) := by decide +kernel
theorem d17 : decode yB 17 = .ok (.if_icmp (.eq) 40, 3) := by decide +kernel
theorem d57 : decode yB 57 = .ok (.aload_n 3, 1) := by decide +kernel
theorem d58 : decode yB 58 = .ok (.areturn, 1) := by decide +kernel
def site : List Cond := [.arrayClass .byte, Cmp5.tab] ++ staticW U16 115 Cmp5.yN
def tab : Cond := tabOf yN yB 6 (some (.array .byte)) site
def P (b : Addr) (A : Cell) (o len : Nat) (args : Array Value) (s : State) : Prop := args = #[.ref b, .int (Int32.ofNat o), .int (Int32.ofNat len)] ∧ Ch b A s ∧ o + len ≤ A.slots.size ∧ len ≤ 536870912 ∧ ∀ i, i < len → ¬ 255 < cv A (o + i)
def E (b : Addr) (A : Cell) (o len : Nat) (r : Option Value) (s u : State) : Prop := NewArr .byte "[B" len (fun j => .int (lo8 (cv A (o + j)))) r s u ∧ u.heap.size = s.heap.size + 1
/-- no char of the range above 255: a new byte[] of their low bytes -/
theorem law (l : Launch) (b : Addr) (A : Cell) (o len : Nat) : Law l yN 3 3 1 18 yB 6 (some (.array .byte)) site (P b A o len) (E b A o len) [] 1 len := by
  refine Law.of_walk (plainFor_of_name (by decide +kernel)) (by decide +kernel) (by decide +kernel) (by decide) (fun _ _ h => by rw [h.1]; rfl) (fun _ U U' hal hh h => ⟨h.1, h.2.1.mv hal hh, h.2.2⟩) (fun r U U' V V' h1 hal h2 h => ⟨NewArr.mv r U U' V V' h1 hal h2 h.1, by rw [h1, h2]; exact h.2⟩) ?_
  intro p e s m args below meth c s₁ X0 hexec hbytes hml hret hlk hnm hown hh0 W hP
  obtain ⟨rfl, hA, l1, l2, hp⟩ := hP
  have a31 := hA.1.2.2.2
  have c1 : Steps p.tables e below (s₁.setTop (entryFrame m #[.ref b, .int (Int32.ofNat o), .int (Int32.ofNat len)] 6)) (s₁.setTop (mkF m 0 #[.val (.ref b), .val (.int (Int32.ofNat o)), .val (.int (Int32.ofNat len)), .unset, .unset, .unset] [])) := entry rfl
  have c2 : Steps p.tables e below (s₁.setTop (entryFrame m #[.ref b, .int (Int32.ofNat o), .int (Int32.ofNat len)] 6)) (s₁.setTop (mkF m 1 #[.val (.ref b), .val (.int (Int32.ofNat o)), .val (.int (Int32.ofNat len)), .unset, .unset, .unset] [.int (Int32.ofNat len)])) := c1.trans (by
    refine XS.iloadN X0.here hexec rfl (hb hbytes d0) rfl ?_
    exact Steps.refl _)
  obtain ⟨T3, B3, X3, ba3, bs3, bv3, bh3, bf3, st3⟩ := X0.anew hexec (atype := .byte) (wk W (.arrayClass .byte)) rfl (by show len * 1 ≤ _; omega) (by omega) (g := (mkF m 1 #[.val (.ref b), .val (.int (Int32.ofNat o)), .val (.int (Int32.ofNat len)), .unset, .unset, .unset] [.int (Int32.ofNat len)])) rfl (hb hbytes d1) (rest := []) rfl (Nat.le_refl _) (by show 0 + len ≤ len; omega)
  rw [hh0] at ba3 st3
  have kp3 : XT.Kept s T3 := (XT.Kept.of_eq hh0).push bh3
  have hA3 := hA.keep X3.warmed.alike (kp3 _ _ hA.1.1)
  have hne : b ≠ s.heap.size := hA.1.ne
  have c4 : Steps p.tables e below (s₁.setTop (entryFrame m #[.ref b, .int (Int32.ofNat o), .int (Int32.ofNat len)] 6)) (T3.setTop (mkF m 3 #[.val (.ref b), .val (.int (Int32.ofNat o)), .val (.int (Int32.ofNat len)), .unset, .unset, .unset] [.ref s.heap.size])) := c2.trans (st3 _ (Steps.refl _))
  have c5 : Steps p.tables e below (s₁.setTop (entryFrame m #[.ref b, .int (Int32.ofNat o), .int (Int32.ofNat len)] 6)) (T3.setTop (mkF m 9 #[.val (.ref b), .val (.int (Int32.ofNat o)), .val (.int (Int32.ofNat len)), .val (.ref s.heap.size), .unset, .unset] [.int (Int32.ofNat len), .int 0, .ref s.heap.size, .int (Int32.ofNat o), .ref b])) := c4.trans (by
    refine XS.astoreN X3.here hexec rfl (hb hbytes d3) rfl rfl rfl ?_
    refine XS.aloadN X3.here hexec rfl (hb hbytes d4) rfl rfl ?_
    refine XS.iloadN X3.here hexec rfl (hb hbytes d5) rfl ?_
    refine XS.aloadN X3.here hexec rfl (hb hbytes d6) rfl rfl ?_
    refine iconstV X3.here hexec rfl 0 (hb hbytes d7) (by decide) ?_
    refine XS.iloadN X3.here hexec rfl (hb hbytes d8) rfl ?_
    exact Steps.refl _)
  obtain ⟨v6, T6, X6, E6, g6⟩ := X3.callS hexec (Cmp5.law l b A s.heap.size B3 o 0 len) hown (wks W (staticW U16 115 Cmp5.yN)) (wk W Cmp5.tab) (W := 0) (Nat.le_of_ble_eq_true rfl) (Nat.le_of_ble_eq_true rfl) (Nat.le_refl _) (by show 0 + len + 0 ≤ len; omega) (g := (mkF m 9 #[.val (.ref b), .val (.int (Int32.ofNat o)), .val (.int (Int32.ofNat len)), .val (.ref s.heap.size), .unset, .unset] [.int (Int32.ofNat len), .int (Int32.ofNat 0), .ref s.heap.size, .int (Int32.ofNat o), .ref b])) rfl (by rw [hml]; rfl) c5 (argsL := [.ref b, .int (Int32.ofNat o), .ref s.heap.size, .int (Int32.ofNat 0), .int (Int32.ofNat len)]) (rest := []) rfl rfl (by show 2 * 0 + 0 ≤ _; decide) (hb hbytes d9) (⟨rfl, hA3, ba3, hne, l1, by rw [bs3]; simp, hp⟩)
  obtain ⟨rfl, B6, p6, f6⟩ := E6
  have c7 : Steps p.tables e below (s₁.setTop (entryFrame m #[.ref b, .int (Int32.ofNat o), .int (Int32.ofNat len)] 6)) (T6.setTop (mkF m 12 #[.val (.ref b), .val (.int (Int32.ofNat o)), .val (.int (Int32.ofNat len)), .val (.ref s.heap.size), .unset, .unset] [.int (Int32.ofNat len)])) := g6
  have c8 : Steps p.tables e below (s₁.setTop (entryFrame m #[.ref b, .int (Int32.ofNat o), .int (Int32.ofNat len)] 6)) (T6.setTop (mkF m 58 #[.val (.ref b), .val (.int (Int32.ofNat o)), .val (.int (Int32.ofNat len)), .val (.ref s.heap.size), .val (.int (Int32.ofNat len)), .unset] [.ref s.heap.size])) := c7.trans (by
    refine XS.istore X6.here hexec rfl (hb hbytes d12) rfl rfl ?_
    refine XS.iload X6.here hexec rfl (hb hbytes d14) rfl ?_
    refine XS.iloadN X6.here hexec rfl (hb hbytes d16) rfl ?_
    refine XS.icmpYes X6.here hexec rfl (pc0 := 17) rfl (hb hbytes d17) rfl (ii_eq_t rfl) (by decide) rfl ?_
    refine XS.aloadN X6.here hexec rfl (hb hbytes d57) rfl rfl ?_
    exact Steps.refl _)
  have X8 := X6.wide (L' := []) (cells' := 1) (slots' := len) (fun x hx hlt => by
    simp only [List.nil_append, copyLocs, List.mem_map, List.mem_range] at hx
    obtain ⟨i, -, rfl⟩ := hx
    exact absurd hlt (Nat.lt_irrefl _)) (Nat.le_refl _) (by omega)
  exact ⟨T6, some (.ref s.heap.size), _, _, _, X8, rfl, rfl, rfl, (fun h => by cases h), ⟨⟨rfl, B6, ba3.like (X3.warmed.alike.symm.trans X6.warmed.alike) p6.1 f6.1 f6.2.1 f6.2.2.1, f6.2.1.trans bv3, by rw [X6.warmed.alike.findClass, f6.1]; exact bf3, by rw [f6.2.2.1, bs3]; simp, fun j hj => by rw [f6.2.2.2 j, if_pos (by omega)]; rfl, kp3.put p6 (Nat.le_refl _)⟩, by rw [p6.2.2, bh3, hh0]; simp⟩, fun fs hl => c8.trans (X8.areturnOut hexec rfl hret rfl (hb hbytes d58) hl)⟩
end Cmp3
namespace CodL
def yN : MethodName := ⟨"java/lang/StringUTF16", "coderFromArrayLen", "([BI)B"⟩
abbrev yB : ByteArray := jdk_52_method_15_code
theorem d0 : decode yB 0 = .ok (.iload_n 1, 1) := by decide +kernel
theorem d1 : decode yB 1 = .ok (.aload_n 0, 1) := by decide +kernel
theorem d2 : decode yB 2 = .ok (.arraylength, 1) := by decide +kernel
theorem d3 : decode yB 3 = .ok (.isub, 1) := by decide +kernel
theorem d4 : decode yB 4 = .ok (.bipush 31, 2) := by decide +kernel
theorem d6 : decode yB 6 = .ok (.iushr, 1) := by decide +kernel
theorem d7 : decode yB 7 = .ok (.i2b, 1) := by decide +kernel
theorem d8 : decode yB 8 = .ok (.ireturn, 1) := by decide +kernel
def site : List Cond := []
def tab : Cond := tabOf yN yB 2 (some .byte) site
def P (d : Addr) (B : Cell) (args : Array Value) (s : State) : Prop := args = #[.ref d, .int (Int32.ofNat B.slots.size)] ∧ Arr .byte d B s
def E (r : Option Value) (s u : State) : Prop := XT.PureE (some (.int 0)) r s u
/-- an array as long as the number of chars: LATIN1 -/
theorem law (l : Launch) (d : Addr) (B : Cell) : Law l yN 2 2 0 0 yB 2 (some .byte) site (P d B) E [] 0 0 := by
  refine Law.of_walk (plainFor_of_name (by decide +kernel)) (by decide +kernel) (by decide +kernel) (by decide) (fun _ _ h => by rw [h.1]; rfl) (fun _ U U' hal hh h => ⟨h.1, h.2.mv hal hh⟩) (fun r U U' V V' h1 hal h2 h => XT.PureE.mv r U U' V V' h1 hal h2 h) ?_
  intro p e s m args below meth c s₁ X0 hexec hbytes hml hret hlk hnm hown hh0 W hP
  obtain ⟨rfl, hB⟩ := hP
  have hB0 := hB.mv X0.warmed.alike hh0
  have c1 : Steps p.tables e below (s₁.setTop (entryFrame m #[.ref d, .int (Int32.ofNat B.slots.size)] 2)) (s₁.setTop (mkF m 0 #[.val (.ref d), .val (.int (Int32.ofNat B.slots.size))] [])) := entry rfl
  have c2 : Steps p.tables e below (s₁.setTop (entryFrame m #[.ref d, .int (Int32.ofNat B.slots.size)] 2)) (s₁.setTop (mkF m 2 #[.val (.ref d), .val (.int (Int32.ofNat B.slots.size))] [.ref d, .int (Int32.ofNat B.slots.size)])) := c1.trans (by
    refine XS.iloadN X0.here hexec rfl (hb hbytes d0) rfl ?_
    refine XS.aloadN X0.here hexec rfl (hb hbytes d1) rfl rfl ?_
    exact Steps.refl _)
  have c3 : Steps p.tables e below (s₁.setTop (entryFrame m #[.ref d, .int (Int32.ofNat B.slots.size)] 2)) (s₁.setTop (mkF m 8 #[.val (.ref d), .val (.int (Int32.ofNat B.slots.size))] [.int (lo8 (ushr (Int32.ofNat B.slots.size - Int32.ofNat B.slots.size) 31))])) := c2.trans (by
    refine X0.alen hexec hB0 rfl rfl (hb hbytes d2) ?_
    refine XS.isub X0.here hexec rfl (hb hbytes d3) rfl ?_
    refine bipushV X0.here hexec rfl 31 (hb hbytes d4) (by decide) ?_
    refine iushr X0.here hexec rfl (hb hbytes d6) rfl ?_
    refine i2b X0.here hexec rfl (hb hbytes d7) rfl ?_
    exact Steps.refl _)
  have e0 : lo8 (ushr (Int32.ofNat B.slots.size - Int32.ofNat B.slots.size) 31) = 0 := by rw [Int32.sub_self]; decide
  rw [e0] at c3
  exact ⟨s₁, some (.int 0), _, _, _, X0, rfl, rfl, rfl, (fun h => by cases h), ⟨rfl, hh0⟩, fun fs hl => c3.trans (X0.ireturnOut hexec hret rfl (Or.inr (Or.inr (Or.inl rfl))) (hb hbytes d8) hl)⟩
end CodL
/-- the String at a is Latin-1 over a new byte[] (the heap's one new cell): the low bytes of the len chars of A from o on; every cell but a is kept -/
def Got (a : Addr) (D : Cell) (fV fC : Field) (A : Cell) (o len : Nat) (r : Option Value) (s u : State) : Prop := r = none ∧ ∃ D' V : Cell, Blank "java/lang/String" a D' u ∧ Same D D' [fV.slot, fC.slot] ∧ D'.slots[fV.slot]? = some (.ref s.heap.size) ∧ D'.slots[fC.slot]? = some (.int 0) ∧ Arr .byte s.heap.size V u ∧ V.vm = .none ∧ u.vm.findClass "[B" = some V.cls ∧ V.slots.size = len ∧ (∀ j, j < len → V.slots[j]? = some (.int (lo8 (cv A (o + j))))) ∧ (∀ (y : Addr) (c : Cell), y ≠ a → s.heap[y]? = some c → u.heap[y]? = some c) ∧ u.heap.size = s.heap.size + 1
theorem Got.mv {a : Addr} {D A : Cell} {fV fC : Field} {o len : Nat} : ∀ r (U U' V V' : State), U'.heap = U.heap → V.vm.Alike V'.vm → V'.heap = V.heap → Got a D fV fC A o len r U V → Got a D fV fC A o len r U' V' :=
  fun r U U' V V' h1 hal h2 ⟨e0, D', X, a1, a2, a3, a4, a5, a6, a7, a8, a9, a10, a11⟩ => ⟨e0, D', X, a1.mv hal h2, a2, by rw [h1]; exact a3, a4, by rw [h1]; exact a5.mv hal h2, a6, by rw [hal.findClass]; exact a7, a8, a9, by rw [h1, h2]; exact a10, by rw [h1, h2]; exact a11⟩
namespace New4
def yN : MethodName := ⟨"java/lang/String", "<init>", "([CIILjava/lang/Void;)V"⟩
abbrev yB : ByteArray := jdk_42_method_149_code
theorem d0 : decode yB 0 = .ok (.aload_n 0, 1) := by decide +kernel
theorem d1 : decode yB 1 = .ok (.invokespecial 1, 3) := by decide +kernel
theorem d4 : decode yB 4 = .ok (.iload_n 3, 1) := by decide +kernel
theorem d5 : decode yB 5 = .ok (.ifCond (.ne) 22, 3) := by decide +kernel
theorem d27 : decode yB 27 = .ok (.getstatic 38, 3) := by decide +kernel
theorem d30 : decode yB 30 = .ok (.ifCond (.eq) 28, 3) := by decide +kernel
theorem d33 : decode yB 33 = .ok (.aload_n 1, 1) := by decide +kernel
theorem d34 : decode yB 34 = .ok (.iload_n 2, 1) := by decide +kernel
theorem d35 : decode yB 35 = .ok (.iload_n 3, 1) := by decide +kernel
theorem d36 : decode yB 36 = .ok (.invokestatic 177, 3) := by decide +kernel
theorem d39 : decode yB 39 = .ok (.astore 5, 2) := by decide +kernel
theorem d41 : decode yB 41 = .ok (.aload_n 0, 1) := by decide +kernel
theorem d42 : decode yB 42 = .ok (.aload 5, 2) := by decide +kernel
theorem d44 : decode yB 44 = .ok (.iload_n 3, 1) := by decide +kernel
theorem d45 : decode yB 45 = .ok (.invokestatic 47, 3) := by decide +kernel
theorem d48 : decode yB 48 = .ok (.putfield 15, 3) := by decide +kernel
theorem d51 : decode yB 51 = .ok (.aload_n 0, 1) := by decide +kernel
theorem d52 : decode yB 52 = .ok (.aload 5, 2) := by decide +kernel
theorem d54 : decode yB 54 = .ok (.putfield 9, 3) := by decide +kernel
theorem d57 : decode yB 57 = .ok (.return_, 1) := by decide +kernel
def site : List Cond := [.fieldLink "java/lang/String" 38 "java/lang/String" "COMPACT_STRINGS" "Z", Cmp3.tab, CodL.tab, .laysFinal "java/lang/String" "java/lang/String" "value" "[B", .fieldLink "java/lang/String" 9 "java/lang/String" "value" "[B", .laysFinal "java/lang/String" "java/lang/String" "coder" "B", .fieldLink "java/lang/String" 15 "java/lang/String" "coder" "B"] ++ objW "java/lang/String" 1 ++ staticW "java/lang/String" 177 Cmp3.yN ++ staticW "java/lang/String" 47 CodL.yN
def tab : Cond := tabOf yN yB 6 none site
def P (a : Addr) (D : Cell) (fV fC : Field) (b : Addr) (A : Cell) (z : Int32) (o len : Nat) (args : Array Value) (s : State) : Prop := args = #[.ref a, .ref b, .int (Int32.ofNat o), .int (Int32.ofNat len), .null] ∧ Blank "java/lang/String" a D s ∧ Found "java/lang/String" "value" "[B" fV s ∧ Found "java/lang/String" "coder" "B" fC s ∧ Ch b A s ∧ StaticIs s "java/lang/String" "COMPACT_STRINGS" "Z" (.int z) ∧ ¬ z = 0 ∧ 0 < len ∧ o + len ≤ A.slots.size ∧ len ≤ 536870912 ∧ ∀ i, i < len → ¬ 255 < cv A (o + i)
def E (a : Addr) (D : Cell) (fV fC : Field) (A : Cell) (o len : Nat) (r : Option Value) (s u : State) : Prop := Got a D fV fC A o len r s u
/-- len > 0, no char of the range above 255: a Latin-1 String of their low bytes -/
theorem law (l : Launch) (a : Addr) (D : Cell) (fV fC : Field) (b : Addr) (A : Cell) (z : Int32) (o len : Nat) : Law l yN 5 4 2 35 yB 6 none site (P a D fV fC b A z o len) (E a D fV fC A o len) [⟨a, fC.slot⟩, ⟨a, fV.slot⟩] 1 len := by
  refine Law.of_walk (plainFor_of_name (by decide +kernel)) (by decide +kernel) (by decide +kernel) (by decide) (fun _ _ h => by rw [h.1]; rfl) (fun _ U U' hal hh h => ⟨h.1, h.2.1.mv hal hh, h.2.2.1.al hal, h.2.2.2.1.al hal, h.2.2.2.2.1.mv hal hh, h.2.2.2.2.2.1.there hal hh, h.2.2.2.2.2.2⟩) (fun r U U' V V' h1 hal h2 h => Got.mv r U U' V V' h1 hal h2 h) ?_
  intro p e s m args below meth c s₁ X0 hexec hbytes hml hret hlk hnm hown hh0 W hP
  obtain ⟨rfl, hB, f1, f2, hA, s1, hz, l0, l1, l2, hp⟩ := hP
  have a31 := hA.1.2.2.2
  have c1 : Steps p.tables e below (s₁.setTop (entryFrame m #[.ref a, .ref b, .int (Int32.ofNat o), .int (Int32.ofNat len), .null] 6)) (s₁.setTop (mkF m 0 #[.val (.ref a), .val (.ref b), .val (.int (Int32.ofNat o)), .val (.int (Int32.ofNat len)), .val .null, .unset] [])) := entry rfl
  have c2 : Steps p.tables e below (s₁.setTop (entryFrame m #[.ref a, .ref b, .int (Int32.ofNat o), .int (Int32.ofNat len), .null] 6)) (s₁.setTop (mkF m 1 #[.val (.ref a), .val (.ref b), .val (.int (Int32.ofNat o)), .val (.int (Int32.ofNat len)), .val .null, .unset] [.ref a])) := c1.trans (by
    refine XS.aloadN X0.here hexec rfl (hb hbytes d0) rfl rfl ?_
    exact Steps.refl _)
  obtain ⟨T3, X3, q3, st3⟩ := X0.oinit hexec hown (wks W (objW "java/lang/String" 1)) (g := (mkF m 1 #[.val (.ref a), .val (.ref b), .val (.int (Int32.ofNat o)), .val (.int (Int32.ofNat len)), .val .null, .unset] [.ref a])) rfl (by rw [hml]; rfl) (rest := []) rfl (hb hbytes d1) (W := 0) (by show 2 * 0 + 0 ≤ _; decide) (Nat.le_of_ble_eq_true rfl) (Nat.le_of_ble_eq_true rfl)
  have hh3 := q3.trans hh0
  have c4 : Steps p.tables e below (s₁.setTop (entryFrame m #[.ref a, .ref b, .int (Int32.ofNat o), .int (Int32.ofNat len), .null] 6)) (T3.setTop (mkF m 27 #[.val (.ref a), .val (.ref b), .val (.int (Int32.ofNat o)), .val (.int (Int32.ofNat len)), .val .null, .unset] [])) := (c2.trans (st3 _ (Steps.refl _))).trans (by
    refine XS.iloadN X3.here hexec rfl (hb hbytes d4) rfl ?_
    refine XS.ifYes X3.here hexec rfl (pc0 := 5) rfl (hb hbytes d5) rfl (i0_ne_t (nz32 (by omega) l0)) (by decide) rfl ?_
    exact Steps.refl _)
  obtain ⟨T5, X5, q5, st5⟩ := X3.sget hexec hown (wk W (.fieldLink "java/lang/String" 38 "java/lang/String" "COMPACT_STRINGS" "Z")) s1 (fun _ _ h => by rw [hh3]; exact h) (g := (mkF m 27 #[.val (.ref a), .val (.ref b), .val (.int (Int32.ofNat o)), .val (.int (Int32.ofNat len)), .val .null, .unset] [])) rfl (hb hbytes d27)
  have hh5 := q5.trans hh3
  have c6 : Steps p.tables e below (s₁.setTop (entryFrame m #[.ref a, .ref b, .int (Int32.ofNat o), .int (Int32.ofNat len), .null] 6)) (T5.setTop (mkF m 30 #[.val (.ref a), .val (.ref b), .val (.int (Int32.ofNat o)), .val (.int (Int32.ofNat len)), .val .null, .unset] [.int z])) := c4.trans (st5 _ (Steps.refl _))
  have c7 : Steps p.tables e below (s₁.setTop (entryFrame m #[.ref a, .ref b, .int (Int32.ofNat o), .int (Int32.ofNat len), .null] 6)) (T5.setTop (mkF m 36 #[.val (.ref a), .val (.ref b), .val (.int (Int32.ofNat o)), .val (.int (Int32.ofNat len)), .val .null, .unset] [.int (Int32.ofNat len), .int (Int32.ofNat o), .ref b])) := c6.trans (by
    refine XS.ifNo X5.here hexec rfl (hb hbytes d30) rfl (i0_eq_f hz) ?_
    refine XS.aloadN X5.here hexec rfl (hb hbytes d33) rfl rfl ?_
    refine XS.iloadN X5.here hexec rfl (hb hbytes d34) rfl ?_
    refine XS.iloadN X5.here hexec rfl (hb hbytes d35) rfl ?_
    exact Steps.refl _)
  obtain ⟨v8, T8, X8, E8, g8⟩ := X5.callS hexec (Cmp3.law l b A o len) hown (wks W (staticW "java/lang/String" 177 Cmp3.yN)) (wk W Cmp3.tab) (W := 0) (Nat.le_of_ble_eq_true rfl) (Nat.le_of_ble_eq_true rfl) (Nat.le_refl _) (by show 0 + len ≤ len; omega) (g := (mkF m 36 #[.val (.ref a), .val (.ref b), .val (.int (Int32.ofNat o)), .val (.int (Int32.ofNat len)), .val .null, .unset] [.int (Int32.ofNat len), .int (Int32.ofNat o), .ref b])) rfl (by rw [hml]; rfl) c7 (argsL := [.ref b, .int (Int32.ofNat o), .int (Int32.ofNat len)]) (rest := []) rfl rfl (by show 2 * 0 + 0 ≤ _; decide) (hb hbytes d36) (⟨rfl, hA.mv X5.warmed.alike hh5, l1, l2, hp⟩)
  obtain ⟨e8, z8⟩ := E8
  obtain ⟨rfl, N, n1, n2, n3, n4, n5, n6⟩ := NewArr.mv _ T5 s _ _ hh5.symm (Vm.Alike.refl _) rfl e8
  rw [hh5] at z8
  have hB1 := hB.keep X8.warmed.alike (n6 _ _ hB.1)
  have hne : s.heap.size ≠ a := (Nat.ne_of_lt (Array.getElem?_eq_some_iff.mp hB.1).1).symm
  have c9 : Steps p.tables e below (s₁.setTop (entryFrame m #[.ref a, .ref b, .int (Int32.ofNat o), .int (Int32.ofNat len), .null] 6)) (T8.setTop (mkF m 39 #[.val (.ref a), .val (.ref b), .val (.int (Int32.ofNat o)), .val (.int (Int32.ofNat len)), .val .null, .unset] [.ref s.heap.size])) := g8
  have c10 : Steps p.tables e below (s₁.setTop (entryFrame m #[.ref a, .ref b, .int (Int32.ofNat o), .int (Int32.ofNat len), .null] 6)) (T8.setTop (mkF m 45 #[.val (.ref a), .val (.ref b), .val (.int (Int32.ofNat o)), .val (.int (Int32.ofNat len)), .val .null, .val (.ref s.heap.size)] [.int (Int32.ofNat N.slots.size), .ref s.heap.size, .ref a])) := by
    have hc : Steps p.tables e below (s₁.setTop (entryFrame m #[.ref a, .ref b, .int (Int32.ofNat o), .int (Int32.ofNat len), .null] 6)) (T8.setTop (mkF m 45 #[.val (.ref a), .val (.ref b), .val (.int (Int32.ofNat o)), .val (.int (Int32.ofNat len)), .val .null, .val (.ref s.heap.size)] [.int (Int32.ofNat len), .ref s.heap.size, .ref a])) := c9.trans (by
      refine XS.astore X8.here hexec rfl (hb hbytes d39) rfl rfl rfl ?_
      refine XS.aloadN X8.here hexec rfl (hb hbytes d41) rfl rfl ?_
      refine XS.aload X8.here hexec rfl (hb hbytes d42) rfl rfl ?_
      refine XS.iloadN X8.here hexec rfl (hb hbytes d44) rfl ?_
      exact Steps.refl _)
    rw [n4]; exact hc
  obtain ⟨v11, T11, X11, E11, g11⟩ := X8.callS hexec (CodL.law l s.heap.size N) hown (wks W (staticW "java/lang/String" 47 CodL.yN)) (wk W CodL.tab) (W := 1) (Nat.le_of_ble_eq_true rfl) (Nat.le_of_ble_eq_true rfl) (Nat.le_refl _) (by show 0 + len + 0 ≤ len; omega) (g := (mkF m 45 #[.val (.ref a), .val (.ref b), .val (.int (Int32.ofNat o)), .val (.int (Int32.ofNat len)), .val .null, .val (.ref s.heap.size)] [.int (Int32.ofNat N.slots.size), .ref s.heap.size, .ref a])) rfl (by rw [hml]; rfl) c10 (argsL := [.ref s.heap.size, .int (Int32.ofNat N.slots.size)]) (rest := [.ref a]) rfl rfl (by show 2 * 0 + (1 + 0) ≤ _; decide) (hb hbytes d45) (⟨rfl, n1⟩)
  obtain ⟨rfl, q11⟩ := E11
  have hB11 := hB1.mv (X8.warmed.alike.symm.trans X11.warmed.alike) q11
  have c12 : Steps p.tables e below (s₁.setTop (entryFrame m #[.ref a, .ref b, .int (Int32.ofNat o), .int (Int32.ofNat len), .null] 6)) (T11.setTop (mkF m 48 #[.val (.ref a), .val (.ref b), .val (.int (Int32.ofNat o)), .val (.int (Int32.ofNat len)), .val .null, .val (.ref s.heap.size)] [.int 0, .ref a])) := g11
  obtain ⟨T13, X13, p13, bl13, sl13, st13⟩ := X11.finit hexec hown (wk W (.fieldLink "java/lang/String" 15 "java/lang/String" "coder" "B")) (Or.inr ⟨_, (wk W (.laysFinal "java/lang/String" "java/lang/String" "coder" "B"))⟩) (Or.inl ⟨rfl, hnm⟩) f2 (Or.inl rfl) hB11 (t := .byte) (by decide +kernel) rfl (g := (mkF m 48 #[.val (.ref a), .val (.ref b), .val (.int (Int32.ofNat o)), .val (.int (Int32.ofNat len)), .val .null, .val (.ref s.heap.size)] [.int 0, .ref a])) rfl (rest := []) rfl (hb hbytes d48)
  have c14 : Steps p.tables e below (s₁.setTop (entryFrame m #[.ref a, .ref b, .int (Int32.ofNat o), .int (Int32.ofNat len), .null] 6)) (T13.setTop (mkF m 54 #[.val (.ref a), .val (.ref b), .val (.int (Int32.ofNat o)), .val (.int (Int32.ofNat len)), .val .null, .val (.ref s.heap.size)] [.ref s.heap.size, .ref a])) := (c12.trans (st13 _ (Steps.refl _))).trans (by
    refine XS.aloadN X13.here hexec rfl (hb hbytes d51) rfl rfl ?_
    refine XS.aload X13.here hexec rfl (hb hbytes d52) rfl rfl ?_
    exact Steps.refl _)
  obtain ⟨T15, X15, p15, bl15, sl15, st15⟩ := X13.finit hexec hown (wk W (.fieldLink "java/lang/String" 9 "java/lang/String" "value" "[B")) (Or.inr ⟨_, (wk W (.laysFinal "java/lang/String" "java/lang/String" "value" "[B"))⟩) (Or.inl ⟨rfl, hnm⟩) f1 (Or.inl rfl) bl13 (t := (.array .byte)) (by decide +kernel) rfl (g := (mkF m 54 #[.val (.ref a), .val (.ref b), .val (.int (Int32.ofNat o)), .val (.int (Int32.ofNat len)), .val .null, .val (.ref s.heap.size)] [.ref s.heap.size, .ref a])) rfl (rest := []) rfl (hb hbytes d54)
  have c16 : Steps p.tables e below (s₁.setTop (entryFrame m #[.ref a, .ref b, .int (Int32.ofNat o), .int (Int32.ofNat len), .null] 6)) (T15.setTop (mkF m 57 #[.val (.ref a), .val (.ref b), .val (.int (Int32.ofNat o)), .val (.int (Int32.ofNat len)), .val .null, .val (.ref s.heap.size)] [])) := c14.trans (st15 _ (Steps.refl _))
  have ap := apart (Or.inr ⟨_, (wk W (.laysFinal "java/lang/String" "java/lang/String" "value" "[B"))⟩) (Or.inr ⟨_, (wk W (.laysFinal "java/lang/String" "java/lang/String" "coder" "B"))⟩) f1 f2 (t₁ := .array .byte) (t₂ := .byte) (by decide +kernel) (by decide +kernel) (by decide)
  have al := X8.warmed.alike.symm.trans X15.warmed.alike
  have n7 : T11.heap[s.heap.size]? = some N := by rw [q11]; exact n1.1
  exact ⟨T15, none, _, _, _, X15, by simp, rfl, by omega, (fun _ => rfl), ⟨rfl, _, N, bl15, ((Same.refl D _).set _ (by simp)).set _ (by simp), sl15, (Cell.slots_setSlot_ne _ ap).trans sl13, n1.keep al (p15.other hne (p13.other hne n7)), n2, by rw [al.findClass]; exact n3, n4, n5, fun y c h1 h2 => p15.other h1 (p13.other h1 (by rw [q11]; exact n6 y c h2)), by rw [p15.2.2, p13.2.2, q11]; exact z8⟩, fun fs hl => c16.trans (X15.returnOut hexec hret (hb hbytes d57) hl)⟩
end New4
namespace New1
def yN : MethodName := ⟨"java/lang/String", "<init>", "([C)V"⟩
abbrev yB : ByteArray := jdk_42_method_3_code
theorem d0 : decode yB 0 = .ok (.aload_n 0, 1) := by decide +kernel
theorem d1 : decode yB 1 = .ok (.aload_n 1, 1) := by decide +kernel
theorem d2 : decode yB 2 = .ok (.iconst 0, 1) := by decide +kernel
theorem d3 : decode yB 3 = .ok (.aload_n 1, 1) := by decide +kernel
theorem d4 : decode yB 4 = .ok (.arraylength, 1) := by decide +kernel
theorem d5 : decode yB 5 = .ok (.aconst_null, 1) := by decide +kernel
theorem d6 : decode yB 6 = .ok (.invokespecial 27, 3) := by decide +kernel
theorem d9 : decode yB 9 = .ok (.return_, 1) := by decide +kernel
def site : List Cond := [New4.tab] ++ initW "java/lang/String" 27 New4.yN
def tab : Cond := tabOf yN yB 2 none site
def P (a : Addr) (D : Cell) (fV fC : Field) (b : Addr) (A : Cell) (z : Int32) (args : Array Value) (s : State) : Prop := args = #[.ref a, .ref b] ∧ Blank "java/lang/String" a D s ∧ Found "java/lang/String" "value" "[B" fV s ∧ Found "java/lang/String" "coder" "B" fC s ∧ Ch b A s ∧ StaticIs s "java/lang/String" "COMPACT_STRINGS" "Z" (.int z) ∧ ¬ z = 0 ∧ 0 < A.slots.size ∧ A.slots.size ≤ 536870912 ∧ ∀ i, i < A.slots.size → ¬ 255 < cv A i
def E (a : Addr) (D : Cell) (fV fC : Field) (A : Cell) (r : Option Value) (s u : State) : Prop := Got a D fV fC A 0 A.slots.size r s u
/-- new String(chars), not empty, no char above 255: a Latin-1 String of their low bytes -/
theorem law (l : Launch) (a : Addr) (D : Cell) (fV fC : Field) (b : Addr) (A : Cell) (z : Int32) : Law l yN 2 1 3 52 yB 2 none site (P a D fV fC b A z) (E a D fV fC A) [⟨a, fC.slot⟩, ⟨a, fV.slot⟩] 1 A.slots.size := by
  refine Law.of_walk (plainFor_of_name (by decide +kernel)) (by decide +kernel) (by decide +kernel) (by decide) (fun _ _ h => by rw [h.1]; rfl) (fun _ U U' hal hh h => ⟨h.1, h.2.1.mv hal hh, h.2.2.1.al hal, h.2.2.2.1.al hal, h.2.2.2.2.1.mv hal hh, h.2.2.2.2.2.1.there hal hh, h.2.2.2.2.2.2⟩) (fun r U U' V V' h1 hal h2 h => Got.mv r U U' V V' h1 hal h2 h) ?_
  intro p e s m args below meth c s₁ X0 hexec hbytes hml hret hlk hnm hown hh0 W hP
  obtain ⟨rfl, hB, f1, f2, hA, s1, hz, l0, l2, hp⟩ := hP
  have c1 : Steps p.tables e below (s₁.setTop (entryFrame m #[.ref a, .ref b] 2)) (s₁.setTop (mkF m 0 #[.val (.ref a), .val (.ref b)] [])) := entry rfl
  have c2 : Steps p.tables e below (s₁.setTop (entryFrame m #[.ref a, .ref b] 2)) (s₁.setTop (mkF m 6 #[.val (.ref a), .val (.ref b)] [.null, .int (Int32.ofNat A.slots.size), .int 0, .ref b, .ref a])) := c1.trans (by
    refine XS.aloadN X0.here hexec rfl (hb hbytes d0) rfl rfl ?_
    refine XS.aloadN X0.here hexec rfl (hb hbytes d1) rfl rfl ?_
    refine iconstV X0.here hexec rfl 0 (hb hbytes d2) (by decide) ?_
    refine XS.aloadN X0.here hexec rfl (hb hbytes d3) rfl rfl ?_
    refine X0.alen hexec (hA.1.mv X0.warmed.alike hh0) rfl rfl (hb hbytes d4) ?_
    refine XS.aconstNull X0.here hexec rfl (hb hbytes d5) ?_
    exact Steps.refl _)
  obtain ⟨v3, T3, X3, E3, g3⟩ := X0.callN hexec (New4.law l a D fV fC b A z 0 A.slots.size) rfl hown (wks W (initW "java/lang/String" 27 New4.yN)) (W New4.tab (by simp only [site, List.mem_cons, List.mem_append, true_or, or_true])) (W := 0) (Nat.le_of_ble_eq_true rfl) (Nat.le_of_ble_eq_true rfl) (Nat.le_refl _) (by show 0 + A.slots.size ≤ A.slots.size; omega) (g := (mkF m 6 #[.val (.ref a), .val (.ref b)] [.null, .int (Int32.ofNat A.slots.size), .int (Int32.ofNat 0), .ref b, .ref a])) rfl (by rw [hml]; rfl) c2 (argsL := [.ref b, .int (Int32.ofNat 0), .int (Int32.ofNat A.slots.size), .null]) (rest := []) rfl rfl (by show 2 * 0 + 0 ≤ _; decide) (hb hbytes d6) (⟨rfl, hB.mv X0.warmed.alike hh0, f1.al X0.warmed.alike, f2.al X0.warmed.alike, hA.mv X0.warmed.alike hh0, s1.there X0.warmed.alike hh0, hz, l0, by omega, l2, fun i hi => by rw [Nat.zero_add]; exact hp i hi⟩)
  have e0 := Got.mv _ s₁ s _ _ hh0.symm (Vm.Alike.refl _) rfl E3
  obtain rfl := e0.1
  have c4 : Steps p.tables e below (s₁.setTop (entryFrame m #[.ref a, .ref b] 2)) (T3.setTop (mkF m 9 #[.val (.ref a), .val (.ref b)] [])) := g3
  exact ⟨T3, none, _, _, _, X3, by simp, rfl, by omega, (fun _ => rfl), e0, fun fs hl => c4.trans (X3.returnOut hexec hret (hb hbytes d9) hl)⟩
theorem pays {l : Launch} {R : Room} {p : Program} {e : Env} {below : List Frame} {s : State} {sargs : Array Value} {len W : Nat} (a : Addr) (D : Cell) (fV fC : Field) (b : Addr) (A : Cell) (z : Int32) (htab : tab.before sargs s = true) (hfr : 4 ≤ R.frames) (hlo : W + 65 ≤ R.locals) :
    Back l R p e below s sargs yN len W (fun A₁ a₁ => A₁.cells + 1 ≤ R.cells ∧ A₁.slots + A.slots.size ≤ R.slots ∧ P a D fV fC b A z a₁ A₁.U) (fun A₁ _ v₁ B₁ => E a D fV fC A v₁ A₁.U B₁.U ∧ B₁.locs = A₁.locs ++ [⟨a, fC.slot⟩, ⟨a, fV.slot⟩] ∧ B₁.cells = A₁.cells + 1 ∧ B₁.slots = A₁.slots + A.slots.size) :=
  (law l a D fV fC b A z).pays htab hfr (by omega)
end New1
end StrChars
namespace StrChars.Road
open Jvm Sem ClassFile Op Lib Jvm.Stand Jvm.Free Jvm.Free.XT
open Jvm.Lib.Cold (StaticIs)
abbrev ST : String := "java/lang/String"
/-- every table word that New1's law asks, flat -/
abbrev words : List Jvm.Cond := [.code New1.yN New1.yB 2 none, .initialized ST, .methodLink ST 27 New4.yN, .instanceMethod New4.yN,
  .code New4.yN New4.yB 6 none, .fieldLink ST 38 ST "COMPACT_STRINGS" "Z", .laysFinal ST ST "value" "[B", .fieldLink ST 9 ST "value" "[B", .laysFinal ST ST "coder" "B", .fieldLink ST 15 ST "coder" "B",
  .methodLink ST 1 Lib.objectInit, .instanceMethod Lib.objectInit, .code Lib.objectInit ⟨#[0xb1]⟩ 1 none, .methodLink ST 177 Cmp3.yN, .static Cmp3.yN, .methodLink ST 47 CodL.yN, .static CodL.yN,
  .code Cmp3.yN Cmp3.yB 6 (some (.array .byte)), .initialized U16, .arrayClass .byte, .methodLink U16 115 Cmp5.yN, .static Cmp5.yN, .code Cmp5.yN Cmp5.yB 7 (some .int), .code CodL.yN CodL.yB 2 (some .byte)]
theorem tab_of {a : Array Value} {s : State} (h : ∀ w ∈ words, w.before a s = true) : New1.tab.before a s = true := by
  have h5 : Cmp5.tab.before a s = true := unparts (wk h (.code Cmp5.yN Cmp5.yB 7 (some .int))) (wks h (.initialized Cmp5.yN.cls :: Cmp5.site))
  have hc : CodL.tab.before a s = true := unparts (wk h (.code CodL.yN CodL.yB 2 (some .byte))) (wks h (.initialized CodL.yN.cls :: CodL.site))
  have q5 : ∀ w ∈ Cmp5.tab :: words, w.before a s = true := fun w hw => (List.mem_cons.mp hw).elim (fun e => e ▸ h5) (h w)
  have h3 : Cmp3.tab.before a s = true := unparts (wk q5 (.code Cmp3.yN Cmp3.yB 6 (some (.array .byte)))) (wks q5 (.initialized Cmp3.yN.cls :: Cmp3.site))
  have q3 : ∀ w ∈ Cmp3.tab :: CodL.tab :: words, w.before a s = true := fun w hw => (List.mem_cons.mp hw).elim (fun e => e ▸ h3) fun hw => (List.mem_cons.mp hw).elim (fun e => e ▸ hc) (h w)
  have h4 : New4.tab.before a s = true := unparts (wk q3 (.code New4.yN New4.yB 6 none)) (wks q3 (.initialized New4.yN.cls :: New4.site))
  have q4 : ∀ w ∈ New4.tab :: words, w.before a s = true := fun w hw => (List.mem_cons.mp hw).elim (fun e => e ▸ h4) (h w)
  exact unparts (wk q4 (.code New1.yN New1.yB 2 none)) (wks q4 (.initialized New1.yN.cls :: New1.site))
/-- the words ride from the start Z to the walk's own state -/
theorem moved {Z s : State} {a0 args : Array Value} (hZ : Z.Warmed39 s.vm) (hw : ∀ d ∈ words, d.before a0 Z = true) : ∀ d ∈ words, d.before args s = true := fun d hd => by
  have q := hw d hd
  have t : ∀ d ∈ words, d = .arrayClass .byte ∨ (d.onTables && d.keepsFace) = true := by decide +kernel
  rcases t d hd with rfl | t
  · exact RoadKit.mvA hZ q
  · exact RoadKit.mv hZ q t
/-- WHAT COMES BACK, over the tables of the start Z: h the heap at the call, h' behind it -/
def Q (Z : State) (x : Addr) (A : Cell) (h : Heap) (v : Option Value) (h' : Heap) (L : List Loc) : Prop := v = none ∧ (∀ y ∈ L, y.base = x) ∧ RoadKit.Keep h h' [x] ∧ h'.size = h.size + 1 ∧ RoadKit.Exa Z h' x ST ∧ RoadKit.Fld Z h' x ST "value" "[B" (.ref h.size) ∧ RoadKit.Fld Z h' x ST "coder" "B" (.int 0) ∧
  (∃ V : Cell, RoadKit.Arr Z h' h.size V .byte ∧ V.vm = .none ∧ Z.vm.findClass "[B" = some V.cls ∧ V.slots.size = A.slots.size ∧ ∀ j, j < A.slots.size → V.slots[j]? = some (.int (lo8 (cv A j)))) ∧
  ∀ (O n d : String) (w : Value), RoadKit.Fld Z h x O n d w → RoadKit.slotOf Z O n d ≠ RoadKit.slotOf Z ST "value" "[B" → RoadKit.slotOf Z O n d ≠ RoadKit.slotOf Z ST "coder" "B" → RoadKit.Fld Z h' x O n d w
/-- **new String(chars) AT A CALL, IN THE ROAD'S FORM**: for specialBack behind newO: x the fresh String, b the char[] with the cell A -/
theorem back {p : Program} {l : Launch} {e : Env} {R : Room} {s : State} {args : Array Value} {below : List Frame} {len W : Nat} {Z : State} {a0 : Array Value} {h : Heap} (hZ : Z.Warmed39 s.vm) (hw : ∀ d ∈ words, d.before a0 Z = true) {kI : Nat} (wi : (Jvm.Cond.instantiable ST kI).before a0 Z = true)
    {x b : Addr} {A : Cell} {z : Int32} {v0 c0 : Value} (E : RoadKit.Exa Z h x ST) (V : RoadKit.Fld Z h x ST "value" "[B" v0) (C : RoadKit.Fld Z h x ST "coder" "B" c0) (K : RoadKit.Arr Z h b A .char) (hty : Typed .char A) (S : RoadKit.Sta Z h ST "COMPACT_STRINGS" "Z" (.int z)) (hz : ¬ z = 0)
    (l0 : 0 < A.slots.size) (l2 : A.slots.size ≤ 536870912) (hp : ∀ i, i < A.slots.size → ¬ 255 < cv A i) (hfr : 4 ≤ R.frames) (hlo : W + 65 ≤ R.locals) :
    Back l R p e below s args New1.yN len W (fun P a => a = #[.ref x, .ref b] ∧ P.U.heap = h ∧ P.cells + 1 ≤ R.cells ∧ P.slots + A.slots.size ≤ R.slots)
      (fun P _ v B => ∃ L, Q Z x A h v B.U.heap L ∧ B.locs = P.locs ++ L ∧ B.cells = P.cells + 1 ∧ B.slots = P.slots + A.slots.size) := by
  intro m meth c P g ig mk a X hg hsize hdg hW hn hp'
  obtain ⟨rfl, rfl, r1, r2⟩ := hp'
  have al : Z.vm.Alike P.U.vm := hZ.alike.trans X.warmed.alike
  obtain ⟨D, cfV, kV, iV, fV, hD, gV, stV, knV, obV, asV, slV⟩ := id V
  obtain ⟨D', cfC, kC, iC, fC, hD', gC, stC, -, -, asC, slC⟩ := id C
  cases hD.symm.trans hD'
  obtain ⟨D2, kD, e1, e2, e3, e4, e5⟩ := id E
  cases hD.symm.trans e1
  obtain ⟨c2, k2, i1, i2, i3, -⟩ := Cond.instantiable_spec wi
  cases e2.symm.trans i1
  cases e3.symm.trans i2
  obtain ⟨kU, u1, u2⟩ := al.2.2 _ _ e3
  have hB : Blank ST x D P.U := ⟨hD, ⟨knV, fun q hq => by rw [hq] at obV; cases obV⟩, by rw [al.findClass]; exact e2, kU, u1, by rw [u2]; exact i3, by rw [u2]; exact e5 i3⟩
  have F1 : Found ST "value" "[B" fV P.U := ⟨SBG.found_only al ⟨cfV, kV, iV, gV⟩, stV⟩
  have F2 : Found ST "coder" "B" fC P.U := ⟨SBG.found_only al ⟨cfC, kC, iC, gC⟩, stC⟩
  have hA : Ch b A P.U := ⟨⟨K.1, State.isArrayOf_alike al K.2.1, K.2.2, by omega⟩, hty⟩
  have hS : StaticIs P.U ST "COMPACT_STRINGS" "Z" (.int z) := by
    obtain ⟨cfS, iS, kS, fS, st, cS, t1, t2, t3, t4, t5, t6, t7⟩ := S
    exact StaticIs.there (s := { Z with heap := P.U.heap }) ⟨cfS, iS, kS, fS, st, cS, t1, t2, t3, t4, t5, (fun q => by rw [q] at t6; cases t6), t7⟩ al rfl
  obtain ⟨v, B, X', ⟨⟨hv, E', V', q1, q2, q3, q4, q5, q6, q7, q8, q9, q10, q11⟩, hl, hc, hs⟩, st⟩ := New1.pays x D fV fC b A z (tab_of (moved hZ hw)) hfr hlo m meth c P g ig mk _ X hg hsize hdg hW hn ⟨r1, r2, rfl, hB, F1, F2, hA, hS, hz, l0, l2, hp⟩
  have al' : Z.vm.Alike B.U.vm := hZ.alike.trans X'.warmed.alike
  have hsz : E'.slots.size = D.slots.size := by
    obtain ⟨-, -, -, kB, w1, w2, w3⟩ := q1
    obtain ⟨kB', y1, y2⟩ := al'.2.2 _ _ e3
    rw [q2.2.1] at w1
    cases w1.symm.trans y1
    rw [w3, e5 i3, y2]
  refine ⟨v, B, X', ⟨_, ⟨hv, ?_, ⟨by omega, fun y cy hy hn' => q10 y cy (by simpa using hn') hy, fun y cy hy => ?_⟩, q11, ⟨E', _, q1.1, by rw [q2.2.1]; exact e2, by rw [q2.2.1]; exact e3, by rw [q2.1]; exact obV, fun _ => by rw [hsz]; exact e5 i3⟩,
    ⟨E', cfV, kV, iV, fV, q1.1, gV, stV, by rw [q2.1]; exact knV, by rw [q2.1]; exact obV, by rw [q2.2.1]; exact asV, q3⟩, ⟨E', cfC, kC, iC, fC, q1.1, gC, stC, by rw [q2.1]; exact knV, by rw [q2.1]; exact obV, by rw [q2.2.1]; exact asC, q4⟩,
    ⟨V', ⟨q5.1, State.isArrayOf_alike al'.symm q5.2.1, q5.2.2.1⟩, q6, by rw [← al'.findClass]; exact q7, q8, fun j hj => by have := q9 j hj; rwa [Nat.zero_add] at this⟩, fun O n d w F n1 n2 => ?_⟩, hl, hc, hs⟩, st⟩
  · intro y hy
    simp only [List.mem_cons, List.not_mem_nil, or_false] at hy
    rcases hy with rfl | rfl <;> rfl
  · by_cases q : y = x
    · subst q
      cases hD.symm.trans hy
      exact ⟨E', q1.1, q2.2.1, q2.1, hsz⟩
    · exact ⟨cy, q10 y cy q hy, rfl, rfl, rfl⟩
  · obtain ⟨D3, cf, k, i, f, g1, g2, g3, g4, g5, g6, g7⟩ := F
    cases hD.symm.trans g1
    simp only [RoadKit.slotOf, g2, gV, gC, Option.map_some, Option.getD_some] at n1 n2
    exact ⟨E', cf, k, i, f, q1.1, g2, g3, by rw [q2.1]; exact g4, by rw [q2.1]; exact g5, by rw [q2.2.1]; exact g6, by rw [q2.2.2 f.slot (by simp [n1, n2])]; exact g7⟩
end StrChars.Road
namespace StrChars.Road
open Jvm Sem ClassFile Op Lib Jvm.Stand Jvm.Free Jvm.Free.XT
/-- WHAT COMES BACK, the byte[] as a list of values -/
def QA (Z : State) (x : Addr) (zn : Int32) (cs : List Int32) (h : Heap) (v : Option Value) (h' : Heap) (L : List Loc) : Prop := v = none ∧ (∀ y ∈ L, y.base = x) ∧ RoadKit.Keep h h' [x] ∧ h'.size = h.size + 1 ∧ RoadKit.Exa Z h' x ST ∧ RoadKit.Fld Z h' x ST "value" "[B" (.ref h.size) ∧ RoadKit.Fld Z h' x ST "coder" "B" (.int 0) ∧
  (∃ kb, Z.vm.findClass "[B" = some kb ∧ RoadKit.Arv Z h' h.size kb .byte zn (cs.map fun c => .int (lo8 c)) (.int 0)) ∧
  ∀ (O n d : String) (w : Value), RoadKit.Fld Z h x O n d w → RoadKit.slotOf Z O n d ≠ RoadKit.slotOf Z ST "value" "[B" → RoadKit.slotOf Z O n d ≠ RoadKit.slotOf Z ST "coder" "B" → RoadKit.Fld Z h' x O n d w
/-- **new String(chars) AT A CALL, THE ARRAYS AS LISTS**: the char[] at b holds cs, not empty, no char above 255 -/
theorem backArv {p : Program} {l : Launch} {e : Env} {R : Room} {s : State} {args : Array Value} {below : List Frame} {len W : Nat} {Z : State} {a0 : Array Value} {h : Heap} (hZ : Z.Warmed39 s.vm) (hw : ∀ d ∈ words, d.before a0 Z = true) {kI : Nat} (wi : (Jvm.Cond.instantiable ST kI).before a0 Z = true)
    {x b : Addr} {k : ClassId} {zn z : Int32} {cs : List Int32} {dv v0 c0 : Value} (E : RoadKit.Exa Z h x ST) (V : RoadKit.Fld Z h x ST "value" "[B" v0) (C : RoadKit.Fld Z h x ST "coder" "B" c0) (K : RoadKit.Arv Z h b k .char zn (cs.map Value.int) dv) (S : RoadKit.Sta Z h ST "COMPACT_STRINGS" "Z" (.int z)) (hz : ¬ z = 0)
    (hlen : zn.toNatClampNeg = cs.length) (h0 : 0 < cs.length) (hbig : cs.length ≤ 536870912) (hall : ∀ c ∈ cs, ¬ 255 < c) (hfr : 4 ≤ R.frames) (hlo : W + 65 ≤ R.locals) :
    Back l R p e below s args New1.yN len W (fun P a => a = #[.ref x, .ref b] ∧ P.U.heap = h ∧ P.cells + 1 ≤ R.cells ∧ P.slots + cs.length ≤ R.slots)
      (fun P _ v B => ∃ L, QA Z x zn cs h v B.U.heap L ∧ B.locs = P.locs ++ L ∧ B.cells = P.cells + 1 ∧ B.slots = P.slots + cs.length) := by
  obtain ⟨A, K1, K2, K3, K4, K5, K6⟩ := K
  have e : A.slots.size = cs.length := K3.trans hlen
  have hat : ∀ (i : Nat) (hi : i < cs.length), A.slots[i]? = some (.int cs[i]) := fun i hi => by rw [K5 i (by omega)]; simp [List.getD_eq_getElem?_getD, hi]
  have hcv : ∀ (i : Nat) (hi : i < cs.length), cv A i = cs[i] := fun i hi => by unfold cv; rw [hat i hi]
  have hty : Typed .char A := fun i v hv => by
    have hi : i < A.slots.size := (Array.getElem?_eq_some_iff.mp hv).1
    have q := K5 i hi
    rw [hv] at q
    rw [Option.some.inj q]
    exact K6 i hi
  refine Back.mono (back hZ hw wi E V C K1 hty S hz (by omega) (by omega) (fun i hi => by rw [hcv i (by omega)]; exact hall _ (List.getElem_mem _)) hfr hlo) (fun P a hp => ⟨hp.1, hp.2.1, hp.2.2.1, by rw [e]; exact hp.2.2.2⟩) (fun P a v B hp hq => ?_)
  obtain ⟨L, ⟨q1, q2, q3, q4, q5, q6, q7, ⟨V', v1, v2, v3, v4, v5⟩, q9⟩, hl, hc, hs⟩ := hq
  refine ⟨L, ⟨q1, q2, q3, q4, q5, q6, q7, ⟨V'.cls, v3, V', v1, rfl, by rw [v4, e, hlen], K4, fun i hi => ?_, fun i hi => ?_⟩, q9⟩, hl, hc, by rw [hs, e]⟩
  · have hi' : i < cs.length := by omega
    rw [v5 i (by omega), hcv i hi']; simp [List.getD_eq_getElem?_getD, hi']
  · have hi' : i < cs.length := by omega
    simp only [List.getD_eq_getElem?_getD, List.getElem?_map, List.getElem?_eq_getElem hi', Option.map_some, Option.getD_some]
    exact fits_lo8 _
end StrChars.Road
namespace StrChars.Road
open Jvm Sem ClassFile Op Lib Jvm.Stand Jvm.Free Jvm.Free.XT
/-- WHAT COMES BACK, in the writer's own shape -/
def QV (Z : State) (x : Addr) (N : Int32) (bs : List Int32) (h : Heap) (n0 : Nat) (v : Option Value) (h' : Heap) (L : List Loc) : Prop := v = none ∧ RoadKit.Fr n0 L ∧ RoadKit.Keep h h' [x] ∧ RoadKit.Exa Z h' x ST ∧ RoadKit.Fld Z h' x ST "coder" "B" (.int 0) ∧
  ∃ (t : Addr) (kb : ClassId), n0 ≤ t ∧ h.size ≤ t ∧ ¬ t = x ∧ RoadKit.Fld Z h' x ST "value" "[B" (.ref t) ∧ RoadKit.Arv Z h' t kb .byte N (bs.map Value.int) (.int 0)
/-- **new String(chars) AT A CALL, FOR THE WRITER**: a char[] of n known ints, each 0 to 255 -/
theorem backV {p : Program} {l : Launch} {e : Env} {R : Room} {s : State} {args : Array Value} {below : List Frame} {len W : Nat} {Z : State} {a0 : Array Value} {h : Heap} (hZ : Z.Warmed39 s.vm) (hw : ∀ d ∈ words, d.before a0 Z = true) {kI : Nat} (wi : (Jvm.Cond.instantiable ST kI).before a0 Z = true)
    {x b : Addr} {kC : ClassId} {cs bs : List Int32} {d v0 c0 : Value} {z N : Int32} {n n0 : Nat} (hx0 : n0 ≤ x) (hh0 : n0 ≤ h.size) (E : RoadKit.Exa Z h x ST) (V : RoadKit.Fld Z h x ST "value" "[B" v0) (C : RoadKit.Fld Z h x ST "coder" "B" c0) (K : RoadKit.Arv Z h b kC .char N (cs.map Value.int) d) (S : RoadKit.Sta Z h ST "COMPACT_STRINGS" "Z" (.int z)) (hz : ¬ z = 0)
    (hn : cs.length = n) (hN : N = Int32.ofNat n) (l0 : 0 < n) (l2 : n ≤ 4000) (hp : ∀ c ∈ cs, ¬ c < 0 ∧ ¬ (255 : Int32) < c) (hb : bs = cs.map (fun c => c.toInt8.toInt32)) (hfr : 4 ≤ R.frames) (hlo : W + 65 ≤ R.locals) :
    Back l R p e below s args (⟨"java/lang/String", "<init>", "([C)V"⟩ : MethodName) len W (fun P a => a = #[.ref x, .ref b] ∧ P.U.heap = h ∧ P.cells + 1 ≤ R.cells ∧ P.slots + n ≤ R.slots)
      (fun P _ v B => ∃ L, QV Z x N bs h n0 v B.U.heap L ∧ B.locs = P.locs ++ L ∧ B.cells = P.cells + 1 ∧ B.slots = P.slots + n) := by
  subst hn hN hb
  refine Back.mono (backArv hZ hw wi E V C K S hz (n32 (by omega)) l0 (by omega) (fun c hc => (hp c hc).2) hfr hlo) (fun P a hp => hp) (fun P a v B hp hq => ?_)
  obtain ⟨L, ⟨q1, q2, q3, q4, q5, q6, q7, ⟨kb, v1, v2⟩, q9⟩, hl, hc, hs⟩ := hq
  exact ⟨L, ⟨q1, fun y hy => by rw [q2 y hy]; exact hx0, q3, q5, q7, h.size, kb, hh0, Nat.le_refl _, Nat.ne_of_gt E.lt, q6, by rw [List.map_map]; exact v2⟩, hl, hc, hs⟩
end StrChars.Road
namespace StrChars
open Jvm Sem ClassFile Op Lib Jvm.Stand Jvm.Free.XT Jvm.Free.ALB Jvm.Free.JM Jvm.Free
open Jvm.Lib.Cold (StaticIs)
def hi8 (x : Int32) : Int32 := lo8 (x >>> ((8 : Int32) &&& 31))
end StrChars
namespace StrChars.Road
open Jvm Sem ClassFile Op Lib Jvm.Stand Jvm.Free Jvm.Free.XT
open Jvm.Lib.Cold (StaticIs)
/-- the bytes of the chars cs, low before high -/
def wideBytes : List Int32 → List Value
  | [] => []
  | c :: cs => .int (lo8 c) :: .int (hi8 c) :: wideBytes cs
/-- an array of N2 bytes vs codes the chars cs by the coder cd -/
def CodA (cs : List Int32) (cd N2 : Int32) (vs : List Value) : Prop := (cd = 0 ∧ N2 = Int32.ofNat cs.length ∧ vs = (cs.map fun c => Value.int (lo8 c)) ∧ ∀ c ∈ cs, ¬ 255 < c) ∨ (cd = 1 ∧ N2 = Int32.ofNat (2 * cs.length) ∧ vs = wideBytes cs ∧ ∃ c ∈ cs, 255 < c)
end StrChars.Road
namespace StrChars.Road
open Jvm Sem ClassFile Op Lib Jvm.Stand Jvm.Free Jvm.Free.XT
open Jvm.Lib.Cold (StaticIs)
/-- what backV says of its String, as the contracts of this text ask it: cs's low bytes, coder 0 -/
theorem codOf {cs : List Int32} {n : Nat} (hn : cs.length = n) (hb : ∀ c ∈ cs, ¬ 255 < c) : CodA cs 0 (Int32.ofNat n) ((cs.map lo8).map Value.int) := Or.inl ⟨rfl, by rw [hn], by simp [List.map_map, Function.comp_def], hb⟩
end StrChars.Road
end Jvm.Pilot.@@N@@
-- part pre
namespace Jvm.Pilot.@@N@@
open Jvm Jvm.ClassFile Sem Op Lib Jvm.Free Jvm.Stand Jvm.LawKit Jvm.RoadKit Bundle Jvm.Pilot.@@N@@.Jvm.D
section Pre
variable {Z : State} {a0 : Array Value} {EL : List (String × Nat)} {sv : Bool} {p : Program} {l : Launch} {e : Env} {R : Room} {s : State} {m : MethodId} {args : Array Value} {below : List Frame} {meth : Method} {c : Code} {own : String} {bytes : ByteArray} {maxL : Nat} {rt : Option FieldType} {nm : String} {h0 : Heap} {ws sf : List Addr} {T : State} {h : Heap} {locs : List Loc} {cells slots : Nat} {Q : Option Value → Heap → Prop} {kc ks : Nat}
theorem neA {x y : Addr} (h : @LT.lt Nat _ x y ∨ @LT.lt Nat _ y x) : x ≠ y := fun e => by subst e; rcases h with h | h <;> exact Nat.lt_irrefl _ h
/-- the i-th word of the tables -/
theorem wd (hw : ∀ d ∈ tables_1, d.before a0 Z = true) (i : Nat) {d : Jvm.Cond} (hd : tables_1[i]? = some d) : d.before a0 Z = true := hw d (List.mem_of_getElem? hd)
/-- the run from T with the frame g on top ends well: it returns, and Q says what -/
def Run (Z : State) (EL : List (String × Nat)) (sv : Bool) (p : Program) (e : Env) (below : List Frame) (s : State) (h0 : Heap) (ws : List Addr) (Q : Option Value → Heap → Prop) (kc ks : Nat) (T : State) (g : JFrame) : Prop :=
  ∃ s₂ o, Steps p.tables e below (T.setTop g) s₂ ∧ s₂.status = .running ∧ Ended s₂ below o ∧ ∃ v L, o = .returned v ∧ (Fr Z.heap.size L ∧ Keep h0 s₂.heap ws ∧ Q v s₂.heap) ∧ CHr Z EL s.vm h0 s₂.vm s₂.heap ∧ ReturnedEndW s o s₂ L kc ks ∧ (NW = true → s.WarmedH s₂.vm) ∧ (sv = true → ∀ x, v = some (.ref x) → x < s₂.heap.size ∧ Safe Z EL s₂.vm s₂.heap x)
/-- what a walk bears at every place: besides the Stand (over the start with the tables at hand): what is plain; what is said of the tables -/
def Sit (Z : State) (a0 : Array Value) (EL : List (String × Nat)) (p : Program) (l : Launch) (e : Env) (R : Room) (s : State) (m : MethodId) (args : Array Value) (below : List Frame) (meth : Method) (c : Code) (own : String) (bytes : ByteArray) (maxL : Nat) (rt : Option FieldType) (nm : String) (h0 : Heap) (ws : List Addr) (sf : List Addr) (T : State) (h : Heap) (locs : List Loc) (cells slots : Nat) : Prop :=
  (T.heap = h ∧ p.tables.exec = Jvm.exec ∧ c.code = bytes ∧ c.maxLocals = maxL ∧ meth.sig.returnType = rt ∧ meth.locks = false ∧ meth.name = nm ∧ Fr Z.heap.size locs ∧ Keep h0 h ws ∧ Ext Z.heap h ∧ EW Z a0 EL) ∧
  ∃ vm0 k0, Stand p l e R (s.setVm vm0) m args below meth c T locs cells slots ∧ Z.Warmed39 vm0 ∧ vm0.findClass own = some m.cls ∧ s.Since vm0 k0 ∧ k0 ≤ h.size ∧ CHr Z EL s.vm h0 vm0 h ∧ (∀ x ∈ sf, x < h.size ∧ Safe Z EL vm0 h x) ∧ (NW = true → s.WarmedH vm0)
theorem Sit.eh (X : Sit Z a0 EL p l e R s m args below meth c own bytes maxL rt nm h0 ws sf T h locs cells slots) : T.heap = h := X.1.1
theorem Sit.ex (X : Sit Z a0 EL p l e R s m args below meth c own bytes maxL rt nm h0 ws sf T h locs cells slots) : p.tables.exec = Jvm.exec := X.1.2.1
theorem Sit.byt (X : Sit Z a0 EL p l e R s m args below meth c own bytes maxL rt nm h0 ws sf T h locs cells slots) : c.code = bytes := X.1.2.2.1
theorem Sit.ml (X : Sit Z a0 EL p l e R s m args below meth c own bytes maxL rt nm h0 ws sf T h locs cells slots) : c.maxLocals = maxL := X.1.2.2.2.1
theorem Sit.rtt (X : Sit Z a0 EL p l e R s m args below meth c own bytes maxL rt nm h0 ws sf T h locs cells slots) : meth.sig.returnType = rt := X.1.2.2.2.2.1
theorem Sit.lk (X : Sit Z a0 EL p l e R s m args below meth c own bytes maxL rt nm h0 ws sf T h locs cells slots) : meth.locks = false := X.1.2.2.2.2.2.1
theorem Sit.nmm (X : Sit Z a0 EL p l e R s m args below meth c own bytes maxL rt nm h0 ws sf T h locs cells slots) : meth.name = nm := X.1.2.2.2.2.2.2.1
theorem Sit.fr (X : Sit Z a0 EL p l e R s m args below meth c own bytes maxL rt nm h0 ws sf T h locs cells slots) : Fr Z.heap.size locs := X.1.2.2.2.2.2.2.2.1
theorem Sit.kp (X : Sit Z a0 EL p l e R s m args below meth c own bytes maxL rt nm h0 ws sf T h locs cells slots) : Keep h0 h ws := X.1.2.2.2.2.2.2.2.2.1
theorem Sit.old (X : Sit Z a0 EL p l e R s m args below meth c own bytes maxL rt nm h0 ws sf T h locs cells slots) : Ext Z.heap h := X.1.2.2.2.2.2.2.2.2.2.1
theorem Sit.ew (X : Sit Z a0 EL p l e R s m args below meth c own bytes maxL rt nm h0 ws sf T h locs cells slots) : EW Z a0 EL := X.1.2.2.2.2.2.2.2.2.2.2
theorem Sit.at (X : Sit Z a0 EL p l e R s m args below meth c own bytes maxL rt nm h0 ws sf T h locs cells slots) : At T m c below := by obtain ⟨-, vm0, k0, X, -⟩ := X; exact X.here
theorem Sit.de (X : Sit Z a0 EL p l e R s m args below meth c own bytes maxL rt nm h0 ws sf T h locs cells slots) {pc : Nat} {r : Except ClassFile.DecodeError (ClassFile.Instr × Nat)} (h2 : ClassFile.decode bytes pc = r) : ClassFile.decode c.code pc = r := X.byt ▸ h2
theorem extKp {h' : Heap} {wz : List Addr} (O : Ext Z.heap h) (K : Keep h h' wz) (q : ∀ x ∈ wz, Z.heap.size ≤ x) : Ext Z.heap h' := ⟨Nat.le_trans O.1 K.1, fun a cl r => K.2.1 _ _ (O.2 _ _ r) fun z => absurd (Array.getElem?_eq_some_iff.mp r).1 (Nat.not_lt.mpr (q _ z))⟩
theorem extK {h h' : Heap} (E : Ext h h') : Keep h h' [] := (Keep.refl h []).ext E
theorem Sit.mono (X : Sit Z a0 EL p l e R s m args below meth c own bytes maxL rt nm h0 ws sf T h locs cells slots) {k n : Nat} (hk : cells ≤ k) (hn : slots ≤ n) : Sit Z a0 EL p l e R s m args below meth c own bytes maxL rt nm h0 ws sf T h locs k n := by
  obtain ⟨F, vm0, k0, Y, r⟩ := X; exact ⟨F, vm0, k0, Y.mono hk hn, r⟩
theorem Sit.less {sf' : List Addr} (X : Sit Z a0 EL p l e R s m args below meth c own bytes maxL rt nm h0 ws sf T h locs cells slots) (q : ∀ x ∈ sf', x ∈ sf) : Sit Z a0 EL p l e R s m args below meth c own bytes maxL rt nm h0 ws sf' T h locs cells slots := by
  obtain ⟨F, vm0, k0, Y, r1, r2, r3, r4, r5, r6, r7⟩ := X; exact ⟨F, vm0, k0, Y, r1, r2, r3, r4, r5, fun x hx => r6 x (q x hx), r7⟩
theorem Run.via {T' : State} {g g' : JFrame} (q : ∀ t, Steps p.tables e below (T'.setTop g') t → Steps p.tables e below (T.setTop g) t) (r : Run Z EL sv p e below s h0 ws Q kc ks T' g') : Run Z EL sv p e below s h0 ws Q kc ks T g := by
  obtain ⟨s₂, o, r1, r2⟩ := r
  exact ⟨s₂, o, q _ r1, r2⟩
theorem Run.on {T' : State} {g g' : JFrame} (q : Steps p.tables e below (T.setTop g) (T'.setTop g')) (r : Run Z EL sv p e below s h0 ws Q kc ks T' g') : Run Z EL sv p e below s h0 ws Q kc ks T g := Run.via (fun _ k => q.trans k) r
/-- the end -/
theorem Run.out (X : Sit Z a0 EL p l e R s m args below meth c own bytes maxL rt nm h0 ws sf T h locs cells slots) {v : Option Value} {g : JFrame} (hv : rt = none → v = none) (hc : cells ≤ kc) (hs : slots ≤ ks) (hq : Q v h) (hsv : sv = true → ∀ x, v = some (.ref x) → x ∈ sf)
    (q : ∀ vm0 fs, Stand p l e R (s.setVm vm0) m args below meth c T locs cells slots → (∀ (f : JFrame) (acts : List Action), f.method = m → f.locked = none → f.entered = [] → (doReturn e (T.setTop f) acts v).1 = T.setFrames fs) → Steps p.tables e below (T.setTop g) (T.setFrames fs)) : Run Z EL sv p e below s h0 ws Q kc ks T g := by
  obtain ⟨F, vm0, k0, Y, r1, r2, r3, r4, r5, r6, r7⟩ := id X
  obtain ⟨fs, hr, hrun, hended, hW⟩ := Y.leaveW r3 (by rw [X.eh]; exact r4) (v := v) (fun z => hv (X.rtt.symm.trans z)) X.lk
  have eh : (T.setFrames fs).heap = h := X.eh
  have ev : (T.setFrames fs).vm = T.vm := rfl
  refine ⟨_, _, q vm0 fs Y hr, hrun, hended, v, locs, rfl, ⟨X.fr, by rw [eh]; exact X.kp, by rw [eh]; exact hq⟩, ?_, ⟨hW.1, hW.2.1, hW.2.2.1, hW.2.2.2.mono hc hs⟩, fun z => ?_, fun z x hx => ?_⟩
  · rw [eh, ev]; exact r5.trans (CHv.at Y r1 X.ew r5.1)
  · rw [ev]; exact State.WarmedH.trans (t := s.setVm vm0) (r7 z) Y.warmed
  · rw [eh, ev]; exact ⟨(r6 x (hsv z x hx)).1, (CHv.at Y r1 X.ew r5.1).safe (r6 x (hsv z x hx)).1 (r6 x (hsv z x hx)).2⟩
theorem Run.retN (X : Sit Z a0 EL p l e R s m args below meth c own bytes maxL rt nm h0 ws sf T h locs cells slots) {pc : Nat} {Ls : Array Slot} {z : Int32} {rest : List Value} {t : FieldType} (hr : rt = some t) (ht : t = .boolean ∨ t = .byte ∨ t = .char ∨ t = .short) (hd : decode bytes pc = .ok (.ireturn, 1)) (hc : cells ≤ kc) (hs : slots ≤ ks) (hq : Q (some (.int (nar t z))) h) :
    Run Z EL sv p e below s h0 ws Q kc ks T (mkF m pc Ls (.int z :: rest)) :=
  Run.out X (fun z => by rw [hr] at z; cases z) hc hs hq (fun _ _ z => by cases z) fun vm0 fs Y q => Jvm.RoadKit.retN Y X.ex (X.rtt.trans hr) ht (X.de hd) q
theorem Run.retI (X : Sit Z a0 EL p l e R s m args below meth c own bytes maxL rt nm h0 ws sf T h locs cells slots) {pc : Nat} {Ls : Array Slot} {z : Int32} {rest : List Value} (hr : rt = some .int) (hd : decode bytes pc = .ok (.ireturn, 1)) (hc : cells ≤ kc) (hs : slots ≤ ks) (hq : Q (some (.int z)) h) :
    Run Z EL sv p e below s h0 ws Q kc ks T (mkF m pc Ls (.int z :: rest)) :=
  Run.out X (fun z => by rw [hr] at z; cases z) hc hs hq (fun _ _ z => by cases z) fun vm0 fs Y q => retOut Y X.ex (X.rtt.trans hr) rfl (Or.inl ⟨rfl, Or.inl rfl, z, rfl⟩) (X.de hd) q
theorem Run.retA (X : Sit Z a0 EL p l e R s m args below meth c own bytes maxL rt nm h0 ws sf T h locs cells slots) {pc : Nat} {Ls : Array Slot} {v : Value} {rest : List Value} {t : FieldType} (hr : rt = some t) (ht : t.isReference = true) (hv : v.isRef = true) (hd : decode bytes pc = .ok (.areturn, 1)) (hc : cells ≤ kc) (hs : slots ≤ ks) (hq : Q (some v) h) (hsv : sv = true → ∀ x, v = .ref x → x ∈ sf) :
    Run Z EL sv p e below s h0 ws Q kc ks T (mkF m pc Ls (v :: rest)) :=
  Run.out X (fun z => by rw [hr] at z; cases z) hc hs hq (fun z x hx => hsv z x (Option.some.inj hx)) fun vm0 fs Y q => retOut Y X.ex (X.rtt.trans hr) (by rcases ref_cases hv with rfl | ⟨_, rfl⟩ <;> cases t <;> rfl) (Or.inr (Or.inr (Or.inr (Or.inr ⟨rfl, ht, hv⟩)))) (X.de hd) q
theorem Run.retV (X : Sit Z a0 EL p l e R s m args below meth c own bytes maxL rt nm h0 ws sf T h locs cells slots) {pc : Nat} {Ls : Array Slot} (hr : rt = none) (hd : decode bytes pc = .ok (.return_, 1)) (hc : cells ≤ kc) (hs : slots ≤ ks) (hq : Q none h) :
    Run Z EL sv p e below s h0 ws Q kc ks T (mkF m pc Ls []) :=
  Run.out X (fun _ => rfl) hc hs hq (fun _ _ z => by cases z) fun vm0 fs Y q => Y.returnOut X.ex (X.rtt.trans hr) (X.de hd) q
/-- a body's contract; sf: objects handed in that are no booked literal's -/
def Con (l : Launch) (Z : State) (a0 : Array Value) (EL : List (String × Nat)) (sv : Bool) (y : MethodName) (bytes : ByteArray) (maxL : Nat) (rt : Option FieldType) (rm : Room) (ws sf : List Addr) (as' : Array Value) (h0 : Heap) (Q : Option Value → Heap → Prop) : Prop :=
  EW Z a0 EL → ∀ wds, MetFree l y (head1 (Jvm.Cond.code y bytes maxL rt :: wds) rm) (fun a U => a = as' ∧ Z.Warmed39 U.vm ∧ U.heap = h0 ∧ CHv Z EL U.vm h0 ∧ ∀ x ∈ sf, x < h0.size ∧ Safe Z EL U.vm h0 x) (fun _ _ _ _ _ => True) (fun _ U o U' => ∃ v L, o = .returned v ∧ (Fr Z.heap.size L ∧ Keep h0 U'.heap ws ∧ Q v U'.heap) ∧ CHr Z EL U.vm h0 U'.vm U'.heap ∧ ReturnedEndW U o U' L rm.cells rm.slots ∧ (NW = true → U.WarmedH U'.vm) ∧ (sv = true → ∀ x, v = some (.ref x) → x < U'.heap.size ∧ Safe Z EL U'.vm U'.heap x))
theorem Con.enter {y : MethodName} {rm : Room} {as' : Array Value} (hn : plainFor y = true) (hE : Ext Z.heap h0)
    (body : ∀ p e s m below meth c T, Sit Z a0 EL p l e rm s m as' below meth c y.cls bytes maxL rt y.name h0 ws sf T h0 [] 0 0 → Run Z EL sv p e below s h0 ws Q rm.cells rm.slots T (entryFrame m as' maxL)) : Con l Z a0 EL sv y bytes maxL rt rm ws sf as' h0 Q := by
  intro hEW wds
  refine MetFree.of_bodySF hn hisR ?_
  intro p e s m args below meth c s₁ Bd hml0 hP hK
  obtain ⟨rfl, hZ, hh, hH, hsf⟩ := hP
  have X0 : Stand p l e rm s m args below meth c s₁ [] 0 0 := Stand.of_body Bd
  have e0 : s₁.heap = h0 := by rw [← hh, Bd.state]; rfl
  exact body p e s m below meth c s₁ ⟨⟨e0, Bd.exec, Bd.bytes, hml0, Bd.returns, Bd.notSynchronized, (name_of_methodNamed Bd.named Bd.method).1, Fr.nil _, Keep.refl _ _, hE, hEW⟩, s.vm, h0.size, X0, hZ, findClass_of_methodNamed Bd.named, (State.WarmedH.refl s).since _, Nat.le_refl _, CHr.refl hH, hsf, fun _ => State.WarmedH.refl s⟩
/-! steps: the same base -/
/-- the walk goes on: other state, same heap -/
theorem Sit.same (X : Sit Z a0 EL p l e R s m args below meth c own bytes maxL rt nm h0 ws sf T h locs cells slots) {Q' : State → Prop} (q : ∀ vm0, Stand p l e R (s.setVm vm0) m args below meth c T locs cells slots → Z.Warmed39 (s.setVm vm0).vm → (s.setVm vm0).vm.findClass own = some m.cls → ∃ T', Stand p l e R (s.setVm vm0) m args below meth c T' locs cells slots ∧ T'.heap = h ∧ Q' T') : ∃ T', Sit Z a0 EL p l e R s m args below meth c own bytes maxL rt nm h0 ws sf T' h locs cells slots ∧ Q' T' := by
  obtain ⟨F, vm0, k0, Y, r1, r2, r⟩ := id X
  obtain ⟨T', Y', e', q'⟩ := q vm0 Y r1 r2
  exact ⟨T', ⟨⟨e', X.ex, X.byt, X.ml, X.rtt, X.lk, X.nmm, X.fr, X.kp, X.old, X.ew⟩, vm0, k0, Y', r1, r2, r⟩, q'⟩
/-- .. the heap has grown by an object x; it is nobody's literal -/
theorem Sit.grow (X : Sit Z a0 EL p l e R s m args below meth c own bytes maxL rt nm h0 ws sf T h locs cells slots) {k n : Nat} {Q' : State → Heap → Prop} (q : ∀ vm0, Stand p l e R (s.setVm vm0) m args below meth c T locs cells slots → Z.Warmed39 (s.setVm vm0).vm → (s.setVm vm0).vm.findClass own = some m.cls → ∃ T' h', Stand p l e R (s.setVm vm0) m args below meth c T' locs k n ∧ T'.heap = h' ∧ Ext h h' ∧ h.size < h'.size ∧ Q' T' h') : ∃ T' h', Sit Z a0 EL p l e R s m args below meth c own bytes maxL rt nm h0 ws (h.size :: sf) T' h' locs k n ∧ Ext h h' ∧ Q' T' h' := by
  obtain ⟨F, vm0, k0, Y, r1, r2, r3, r4, r5, r6, r7⟩ := id X
  obtain ⟨T', h', Y', e', E, lt, q'⟩ := q vm0 Y r1 r2
  refine ⟨T', h', ⟨⟨e', X.ex, X.byt, X.ml, X.rtt, X.lk, X.nmm, X.fr, X.kp.ext E, extKp X.old (extK E) (fun _ z => nomatch z), X.ew⟩, vm0, k0, Y', r1, r2, r3, Nat.le_trans r4 E.1, r5.trans (CHr.ext E r5.1), fun x hx => ?_, r7⟩, E, q'⟩
  rcases List.mem_cons.mp hx with rfl | hx
  · exact ⟨lt, (Safe.new (Nat.le_refl _)).ext E r5.1⟩
  · exact ⟨Nat.lt_of_lt_of_le (r6 x hx).1 E.1, (r6 x hx).2.ext E r5.1⟩
/-- .. only the places wz were written, none of a literal's -/
theorem Sit.go (X : Sit Z a0 EL p l e R s m args below meth c own bytes maxL rt nm h0 ws sf T h locs cells slots) {k n : Nat} {wz : List Addr} {Q' : State → Heap → List Loc → Prop} (r : ∀ x ∈ wz, (x ∈ ws ∨ h0.size ≤ x) ∧ Z.heap.size ≤ x) (sfe : ∀ vm0, Z.vm.Alike vm0 → (∀ x ∈ sf, Safe Z EL vm0 h x) → ∀ x ∈ wz, Safe Z EL vm0 h x)
    (q : ∀ vm0, Stand p l e R (s.setVm vm0) m args below meth c T locs cells slots → Z.Warmed39 (s.setVm vm0).vm → (s.setVm vm0).vm.findClass own = some m.cls → ∃ T' h' L, Stand p l e R (s.setVm vm0) m args below meth c T' (locs ++ L) k n ∧ T'.heap = h' ∧ Keep h h' wz ∧ Fr Z.heap.size L ∧ Q' T' h' L) : ∃ T' h' L, Sit Z a0 EL p l e R s m args below meth c own bytes maxL rt nm h0 ws sf T' h' (locs ++ L) k n ∧ Keep h h' wz ∧ Q' T' h' L := by
  obtain ⟨F, vm0, k0, Y, r1, r2, r3, r4, r5, r6, r7⟩ := id X
  obtain ⟨T', h', L, Y', e', K, N, q'⟩ := q vm0 Y r1 r2
  have sw := sfe vm0 r1.alike fun x hx => (r6 x hx).2
  exact ⟨T', h', L, ⟨⟨e', X.ex, X.byt, X.ml, X.rtt, X.lk, X.nmm, Fr.app X.fr N, X.kp.trans K fun x hx => (r x hx).1, extKp X.old K fun x hx => (r x hx).2, X.ew⟩, vm0, k0, Y', r1, r2, r3, Nat.le_trans r4 K.1, r5.trans (CHr.keep K sw r5.1), fun x hx => ⟨Nat.lt_of_lt_of_le (r6 x hx).1 K.1, (r6 x hx).2.keep K sw r5.1⟩, r7⟩, K, q'⟩
/-- the reference that comes back, where the contract says that it is nobody's literal -/
def rvs (su : Bool) (v : Option Value) : List Addr := match su, v with
  | true, some (.ref x) => [x]
  | _, _ => []
theorem rvs_safe {su : Bool} {v : Option Value} {P : Addr → Prop} (q : su = true → ∀ x, v = some (.ref x) → P x) : ∀ x ∈ rvs su v, P x := fun x hx => by
  unfold rvs at hx
  split at hx
  · cases List.mem_singleton.mp hx; exact q rfl x rfl
  · cases hx
/-- .. a step that may have interned: another base -/
theorem Sit.reb (X : Sit Z a0 EL p l e R s m args below meth c own bytes maxL rt nm h0 ws sf T h locs cells slots) {k n : Nat} {wz : List Addr} {Q' : State → Heap → List Loc → List Addr → Prop} (r : ∀ x ∈ wz, (x ∈ ws ∨ h0.size ≤ x) ∧ Z.heap.size ≤ x)
    (q : ∀ vm0 k0, Stand p l e R (s.setVm vm0) m args below meth c T locs cells slots → Z.Warmed39 (s.setVm vm0).vm → (s.setVm vm0).vm.findClass own = some m.cls → s.Since vm0 k0 → k0 ≤ h.size → CHv Z EL vm0 h → (∀ x ∈ sf, x < h.size ∧ Safe Z EL vm0 h x) → ∃ T' h' L vm1 k1 sx, Stand p l e R (s.setVm vm1) m args below meth c T' (locs ++ L) k n ∧ T'.heap = h' ∧ Keep h h' wz ∧ Fr Z.heap.size L ∧ Z.Warmed39 vm1 ∧ vm1.findClass own = some m.cls ∧ s.Since vm1 k1 ∧ k1 ≤ h'.size ∧ CHr Z EL vm0 h vm1 h' ∧ (NW = true → (s.setVm vm0).WarmedH vm1) ∧ (∀ x ∈ sx, x < h'.size ∧ Safe Z EL vm1 h' x) ∧ Q' T' h' L sx) : ∃ T' h' L sx, Sit Z a0 EL p l e R s m args below meth c own bytes maxL rt nm h0 ws (sx ++ sf) T' h' (locs ++ L) k n ∧ Keep h h' wz ∧ Q' T' h' L sx := by
  obtain ⟨F, vm0, k0, Y, r1, r2, r3, r4, r5, r6, r7⟩ := id X
  obtain ⟨T', h', L, vm1, k1, sx, Y', e', K, N, W1, W2, S1, hk1, C1, n1, f1, q'⟩ := q vm0 k0 Y r1 r2 r3 r4 r5.1 r6
  refine ⟨T', h', L, sx, ⟨⟨e', X.ex, X.byt, X.ml, X.rtt, X.lk, X.nmm, Fr.app X.fr N, X.kp.trans K fun x hx => (r x hx).1, extKp X.old K fun x hx => (r x hx).2, X.ew⟩, vm1, k1, Y', W1, W2, S1, hk1, r5.trans C1, fun x hx => ?_, fun z => State.WarmedH.trans (t := s.setVm vm0) (r7 z) (n1 z)⟩, K, q'⟩
  rcases List.mem_append.mp hx with hx | hx
  · exact f1 x hx
  · exact ⟨Nat.lt_of_lt_of_le (r6 x hx).1 K.1, C1.safe (r6 x hx).1 (r6 x hx).2⟩
theorem Run.new (X : Sit Z a0 EL p l e R s m args below meth c own bytes maxL rt nm h0 ws sf T h locs cells slots) {C : String} {index n pc : Nat} {Ls : Array Slot} {st : List Value} (w : (Cond.classLink own index C).before a0 Z = true) (wi : (Cond.instantiable C n).before a0 Z = true) (wz : (Cond.initialized C).before a0 Z = true) (hd : decode bytes pc = .ok (.new index, 3)) (hc : cells + 1 ≤ R.cells) (hl : slots + n ≤ R.slots)
    (k : ∀ (T' : State) (h' : Heap) (x : Addr), @Eq Nat x h.size → Sit Z a0 EL p l e R s m args below meth c own bytes maxL rt nm h0 ws (x :: sf) T' h' locs (cells + 1) (slots + n) → Keep h h' [] → x < h'.size → Exa Z h' x C → (∀ {O f d : String} {ty : FieldType}, Laid Z a0 C O f d → parseFieldDescriptor d = some ty → Fld Z h' x O f d (defaultValue ty)) → Run Z EL sv p e below s h0 ws Q kc ks T' (mkF m (pc + 3) Ls (.ref x :: st))) :
    Run Z EL sv p e below s h0 ws Q kc ks T (mkF m pc Ls st) := by
  obtain ⟨T', h', X', E, A, D, q⟩ := X.grow (k := cells + 1) (n := slots + n) (Q' := fun T' h' => Exa Z h' h.size C ∧ (∀ {O f d : String} {ty : FieldType}, Laid Z a0 C O f d → parseFieldDescriptor d = some ty → Fld Z h' h.size O f d (defaultValue ty)) ∧ ∀ t, Steps p.tables e below (T'.setTop (mkF m (pc + 3) Ls (.ref h.size :: st))) t → Steps p.tables e below (T.setTop (mkF m pc Ls st)) t) fun vm0 Y hZ ho => by
    obtain ⟨T', h', Y', e', E, A, D, -, q⟩ := newO Y X.ex hZ ho w wi wz X.eh (g := mkF m pc Ls st) rfl (X.de hd) hc hl
    exact ⟨T', h', Y', e', E, A.lt, A, D, q⟩
  exact Run.via q (k T' h' _ rfl X' (extK E) A.lt A D)
theorem Run.getf (X : Sit Z a0 EL p l e R s m args below meth c own bytes maxL rt nm h0 ws sf T h locs cells slots) {R0 O f d : String} {index pc : Nat} {Ls : Array Slot} {st : List Value} {a : Addr} {v : Value} (w : (Cond.fieldLink own index R0 f d).before a0 Z = true) (via : Via Z R0 O f d) (F : Fld Z h a O f d v) (hd : decode bytes pc = .ok (.getfield index, 3))
    (k : ∀ (T' : State), Sit Z a0 EL p l e R s m args below meth c own bytes maxL rt nm h0 ws sf T' h locs cells slots → Run Z EL sv p e below s h0 ws Q kc ks T' (mkF m (pc + 3) Ls (v :: st))) : Run Z EL sv p e below s h0 ws Q kc ks T (mkF m pc Ls (.ref a :: st)) := by
  obtain ⟨T', X', q⟩ := X.same fun vm0 Y hZ ho => getF Y X.ex hZ ho (host := "") (Or.inl w) via X.eh F (g := mkF m pc Ls (.ref a :: st)) rfl rfl (X.de hd)
  exact Run.via q (k T' X')
theorem Run.gets (X : Sit Z a0 EL p l e R s m args below meth c own bytes maxL rt nm h0 ws sf T h locs cells slots) {R0 O f d : String} {index pc : Nat} {Ls : Array Slot} {st : List Value} {v : Value} (w : (Cond.fieldLink own index R0 f d).before a0 Z = true) (via : Via Z R0 O f d) (F : Sta Z Z.heap O f d v) (hd : decode bytes pc = .ok (.getstatic index, 3))
    (k : ∀ (T' : State), Sit Z a0 EL p l e R s m args below meth c own bytes maxL rt nm h0 ws sf T' h locs cells slots → Run Z EL sv p e below s h0 ws Q kc ks T' (mkF m (pc + 3) Ls (v :: st))) : Run Z EL sv p e below s h0 ws Q kc ks T (mkF m pc Ls st) := by
  obtain ⟨T', X', q⟩ := X.same fun vm0 Y hZ ho => getS Y X.ex hZ (host := "") ho w via X.eh (F.ext X.old) (g := mkF m pc Ls st) rfl (X.de hd)
  exact Run.via q (k T' X')
theorem Run.putf (X : Sit Z a0 EL p l e R s m args below meth c own bytes maxL rt nm h0 ws sf T h locs cells slots) {R0 O f d C : String} {index pc kk : Nat} {Ls : Array Slot} {st : List Value} {a : Addr} {v v' old : Value} {ty : FieldType} (w : (Cond.fieldLink own index R0 f d).before a0 Z = true) (via : Via Z R0 O f d) (F : Fld Z h a O f d old) (E : Exa Z h a C) (L : (Cond.lays C O f d).before a0 Z = true ∨ ((Cond.laysFinal C O f d).before a0 Z = true ∧ own = O ∧ nm = "<init>")) (wi : (Cond.instantiable C kk).before a0 Z = true)
    (hty : parseFieldDescriptor d = some ty) (hn : narrow ty v = v') (hf : fits ty v' = true) (ha : a ∈ ws ∨ h0.size ≤ a) (hz : Z.heap.size ≤ a) (hsf : (C ≠ "java/lang/String" ∧ C ≠ "[B") ∨ a ∈ sf) (hd : decode bytes pc = .ok (.putfield index, 3))
    (k : ∀ (T' : State) (h' : Heap) (L : List Loc), Sit Z a0 EL p l e R s m args below meth c own bytes maxL rt nm h0 ws sf T' h' (locs ++ L) cells slots → Keep h h' [a] → Wr h h' a (RoadKit.slotOf Z O f d) v' → Fld Z h' a O f d v' → Exa Z h' a C → Run Z EL sv p e below s h0 ws Q kc ks T' (mkF m (pc + 3) Ls st)) : Run Z EL sv p e below s h0 ws Q kc ks T (mkF m pc Ls (v :: .ref a :: st)) := by
  obtain ⟨T', h', L', X', K, W, q⟩ := X.go (k := cells) (n := slots) (wz := [a]) (Q' := fun T' h' _ => Wr h h' a (RoadKit.slotOf Z O f d) v' ∧ ∀ t, Steps p.tables e below (T'.setTop (mkF m (pc + 3) Ls st)) t → Steps p.tables e below (T.setTop (mkF m pc Ls (v :: .ref a :: st))) t) (fun x hx => by cases List.mem_singleton.mp hx; exact ⟨ha, hz⟩) (fun vm0 al hs x hx => by cases List.mem_singleton.mp hx; exact hsf.elim (fun z => Safe.exa al E z.1 z.2) (hs a)) fun vm0 Y hZ ho => by
    obtain ⟨T', h', Y', e', W, q⟩ := putFN Y X.ex hZ ho w via X.eh F E (L.imp id fun z => ⟨z.1, z.2.1, X.nmm.trans z.2.2⟩) wi hty hn hf (g := mkF m pc Ls (v :: .ref a :: st)) rfl rfl (X.de hd)
    exact ⟨T', h', _, Y', e', Keep.of_wr W, fun y hy => by cases List.mem_singleton.mp hy; exact hz, W, q⟩
  exact Run.via q (k T' h' L' X' K W (F.same W) (E.wr W))
theorem Run.initO (X : Sit Z a0 EL p l e R s m args below meth c own bytes maxL rt nm h0 ws sf T h locs cells slots) {idx pc : Nat} {Ls : Array Slot} {a : Addr} {st : List Value} (w1 : (Cond.methodLink own idx Lib.objectInit).before a0 Z = true) (w2 : (Cond.instanceMethod Lib.objectInit).before a0 Z = true) (w3 : (Cond.code Lib.objectInit ⟨#[0xb1]⟩ 1 none).before a0 Z = true)
    (hsz : Ls.size = maxL) (hd : decode bytes pc = .ok (.invokespecial idx, 3)) (hf : 1 ≤ R.frames) (hl : (st.map fun v => v.category).sum + 12 ≤ R.locals)
    (k : ∀ (T' : State), Sit Z a0 EL p l e R s m args below meth c own bytes maxL rt nm h0 ws sf T' h locs cells slots → Run Z EL sv p e below s h0 ws Q kc ks T' (mkF m (pc + 3) Ls st)) : Run Z EL sv p e below s h0 ws Q kc ks T (mkF m pc Ls (.ref a :: st)) := by
  obtain ⟨T', X', q⟩ := X.same fun vm0 Y hZ ho => Jvm.RoadKit.initO Y X.ex hZ ho w1 w2 w3 X.eh (g := mkF m pc Ls (.ref a :: st)) rfl (hsz.trans X.ml.symm) rfl (X.de hd) hf (W := (st.map fun v => v.category).sum) (by show 2 * 0 + _ ≤ _; omega) hl
  exact Run.via q (k T' X')
theorem Run.ldcI (X : Sit Z a0 EL p l e R s m args below meth c own bytes maxL rt nm h0 ws sf T h locs cells slots) {index pc : Nat} {v : Int32} {Ls : Array Slot} {st : List Value} (w : (Cond.constant own index v).before a0 Z = true) (hd : decode bytes pc = .ok (.ldc index, 2))
    (k : Run Z EL sv p e below s h0 ws Q kc ks T (mkF m (pc + 2) Ls (.int v :: st))) : Run Z EL sv p e below s h0 ws Q kc ks T (mkF m pc Ls st) := by
  obtain ⟨-, vm0, k0, Y, r1, r2, -⟩ := id X
  exact Run.via (Y.ldcInt X.ex r2 (mv (s := s.setVm vm0) r1 w) (g := mkF m pc Ls st) rfl (X.de hd)) k
theorem Run.ldcL (X : Sit Z a0 EL p l e R s m args below meth c own bytes maxL rt nm h0 ws sf T h locs cells slots) {index pc : Nat} {v : Int64} {Ls : Array Slot} {st : List Value} (w : (Cond.constantLong own index v).before a0 Z = true) (hd : decode bytes pc = .ok (.ldc2_w index, 3))
    (k : Run Z EL sv p e below s h0 ws Q kc ks T (mkF m (pc + 3) Ls (.long v :: st))) : Run Z EL sv p e below s h0 ws Q kc ks T (mkF m pc Ls st) := by
  obtain ⟨-, vm0, k0, Y, r1, r2, -⟩ := id X
  exact Run.via (Y.ldc2Long X.ex r2 (mv (s := s.setVm vm0) r1 w) (g := mkF m pc Ls st) rfl (X.de hd)) k
theorem Run.irem (X : Sit Z a0 EL p l e R s m args below meth c own bytes maxL rt nm h0 ws sf T h locs cells slots) {pc : Nat} {x y : Int32} {Ls : Array Slot} {st : List Value} (hd : decode bytes pc = .ok (.irem, 1)) (hy : y ≠ 0)
    (k : Run Z EL sv p e below s h0 ws Q kc ks T (mkF m (pc + 1) Ls (.int (x % y) :: st))) : Run Z EL sv p e below s h0 ws Q kc ks T (mkF m pc Ls (.int y :: .int x :: st)) := by
  obtain ⟨-, vm0, k0, Y, -⟩ := id X
  exact Run.via (fun t r => iremM Y X.ex (g := mkF m pc Ls (.int y :: .int x :: st)) rfl (X.de hd) rfl hy r) k
theorem Run.lswHit (X : Sit Z a0 EL p l e R s m args below meth c own bytes maxL rt nm h0 ws sf T h locs cells slots) {pc len : Nat} {k : Int32} {df : Int} {pairs : Array (Int × Int)} {Ls : Array Slot} {st : List Value} (hd : decode bytes pc = .ok (.lookupswitch df pairs, len)) (hso : (pairs.toList.zip (pairs.toList.drop 1)).all (fun (a, next) => a.1 < next.1) = true) {a off : Int} (hf : pairs.find? (·.1 == k.toInt) = some (a, off)) (ho : 0 ≤ (pc : Int) + off)
    (r : Run Z EL sv p e below s h0 ws Q kc ks T (mkF m ((pc : Int) + off).toNat Ls st)) : Run Z EL sv p e below s h0 ws Q kc ks T (mkF m pc Ls (.int k :: st)) := by
  obtain ⟨-, vm0, k0, Y, -⟩ := id X
  exact Run.via (fun t r => Y.lookupswitchHit X.ex (g := mkF m pc Ls (.int k :: st)) rfl rfl (X.de hd) hso hf ho t r) r
theorem Run.lswMiss (X : Sit Z a0 EL p l e R s m args below meth c own bytes maxL rt nm h0 ws sf T h locs cells slots) {pc len : Nat} {k : Int32} {df : Int} {pairs : Array (Int × Int)} {Ls : Array Slot} {st : List Value} (hd : decode bytes pc = .ok (.lookupswitch df pairs, len)) (hso : (pairs.toList.zip (pairs.toList.drop 1)).all (fun (a, next) => a.1 < next.1) = true) (hf : pairs.find? (·.1 == k.toInt) = none) (ho : 0 ≤ (pc : Int) + df)
    (r : Run Z EL sv p e below s h0 ws Q kc ks T (mkF m ((pc : Int) + df).toNat Ls st)) : Run Z EL sv p e below s h0 ws Q kc ks T (mkF m pc Ls (.int k :: st)) := by
  obtain ⟨-, vm0, k0, Y, -⟩ := id X
  exact Run.via (fun t r => Y.lookupswitchMiss X.ex (g := mkF m pc Ls (.int k :: st)) rfl rfl (X.de hd) hso hf ho t r) r
/-! arrays of chars or bytes -/
/-- the array b holds just these -/
def Arc (ty : FieldType) (Z : State) (h : Heap) (b : Addr) (cs : List Int32) : Prop := ∃ k, Arv Z h b k ty (Int32.ofNat cs.length) (cs.map Value.int) (.int 0) ∧ cs.length ≤ 4000
theorem n32' {n : Nat} (h : n ≤ 4000) : ¬ Int32.ofNat n < 0 ∧ (Int32.ofNat n).toNatClampNeg = n := by
  have e : (Int32.ofNat n).toInt = n := Int32.toInt_ofNat_small (by omega)
  refine ⟨fun q => ?_, ?_⟩
  · rw [Int32.lt_iff_toInt_lt, e] at q; have : (0 : Int32).toInt = 0 := rfl; omega
  · show (Int32.ofNat n).toInt.toNat = n
    rw [e]; simp
theorem Arc.keep {ty : FieldType} {h' : Heap} {wz : List Addr} {b : Addr} {cs : List Int32} (A : Arc ty Z h b cs) (K : Keep h h' wz) (q : b ∉ wz) : Arc ty Z h' b cs := by
  obtain ⟨k, A, r⟩ := A; exact ⟨k, A.keep K q, r⟩
theorem Arc.lt {ty : FieldType} {b : Addr} {cs : List Int32} (A : Arc ty Z h b cs) : b < h.size := by obtain ⟨k, A, r⟩ := A; exact A.lt
theorem getD_map (cs : List Int32) (i : Nat) : (cs.map Value.int).getD i (.int 0) = .int (cs.getD i 0) := by
  simp only [List.getD_eq_getElem?_getD, List.getElem?_map]; cases cs[i]? <;> rfl
theorem Run.newarr (X : Sit Z a0 EL p l e R s m args below meth c own bytes maxL rt nm h0 ws sf T h locs cells slots) {aty : ArrayType} {pc n cap : Nat} {j : Int32} {Ls : Array Slot} {st : List Value} (w : (Cond.arrayClass (newarray.typeOf aty)).before a0 Z = true) (hi : defaultValue (newarray.typeOf aty) = .int 0) (hd : decode bytes pc = .ok (.newarray aty, 2)) (hj : j = Int32.ofNat n) (hcap : n ≤ cap) (hn : cap ≤ 4000) (hc : cells + 1 ≤ R.cells) (hl : slots + cap ≤ R.slots)
    (k : ∀ (T' : State) (h' : Heap) (x : Addr), @Eq Nat x h.size → Sit Z a0 EL p l e R s m args below meth c own bytes maxL rt nm h0 ws (x :: sf) T' h' locs (cells + 1) (slots + cap) → Keep h h' [] → x < h'.size → Arc (newarray.typeOf aty) Z h' x (List.replicate n 0) → Run Z EL sv p e below s h0 ws Q kc ks T' (mkF m (pc + 2) Ls (.ref x :: st))) :
    Run Z EL sv p e below s h0 ws Q kc ks T (mkF m pc Ls (.int j :: st)) := by
  subst hj
  have hn' : n ≤ 4000 := Nat.le_trans hcap hn
  have q32 := n32' hn'
  obtain ⟨T', h', X', E, lt, A, q⟩ := X.grow (k := cells + 1) (n := slots + cap) (Q' := fun T' h' => h.size < h'.size ∧ Arc (newarray.typeOf aty) Z h' h.size (List.replicate n 0) ∧ ∀ t, Steps p.tables e below (T'.setTop (mkF m (pc + 2) Ls (.ref h.size :: st))) t → Steps p.tables e below (T.setTop (mkF m pc Ls (.int (Int32.ofNat n) :: st))) t) fun vm0 Y hZ ho => by
    obtain ⟨T', h', kA, Y', e', E, A, q⟩ := newP Y X.ex hZ w X.eh (g := mkF m pc Ls (.int (Int32.ofNat n) :: st)) rfl (X.de hd) rfl q32.1 (cap := cap) (by rw [q32.2]; exact hcap) (by omega) hc hl
    have V := Arv.new A q32.1
    rw [hi] at V
    refine ⟨T', h', Y', e', E, A.lt, A.lt, ⟨kA, ?_, by simpa using hn'⟩, q⟩
    have V2 := V.pad (vs' := (List.replicate n (0 : Int32)).map Value.int) fun i => by
      have := pad_rep [] (.int 0) n i
      simpa using this
    simpa using V2
  exact Run.via q (k T' h' _ rfl X' (extK E) lt A)
theorem idx_of {j : Int32} {i n : Nat} (hj : j = Int32.ofNat i) (hi : i < n) (hn : n ≤ 4000) : ¬ (j < 0 ∨ (Int32.ofNat n).toNatClampNeg ≤ j.toNatClampNeg) ∧ j.toNatClampNeg = i := by
  subst hj
  have a := n32' (n := i) (by omega)
  have b := n32' hn
  exact ⟨fun q => q.elim a.1 fun q => by rw [a.2, b.2] at q; omega, a.2⟩
theorem Arc.set {ty : FieldType} {h' : Heap} {b : Addr} {cs : List Int32} {j v' : Int32} {i : Nat} {kA : ClassId} {cl : Cell} (hlen : cs.length ≤ 4000) (A : Arr Z h b cl ty) (q1 : cl.cls = kA) (S : cl.slots.size = (Int32.ofNat cs.length).toNatClampNeg) (q3 : ¬ Int32.ofNat cs.length < 0) (H : RoadKit.Has cl (cs.map Value.int) (.int 0)) (G : ∀ i, i < cl.slots.size → fits ty ((cs.map Value.int).getD i (.int 0)) = true) (hv : fits ty (.int v') = true) (W : Wr h h' b j.toNatClampNeg (.int v')) (j2 : j.toNatClampNeg = i) (hi : i < cs.length) : Arc ty Z h' b (cs.set i v') := by
  have V' := Arv.set A q1 S q3 H G hv W i j2 (by simpa using hi)
  refine ⟨kA, ?_, by simpa using hlen⟩
  have e1 : (cs.map Value.int).set i (.int v') = (cs.set i v').map Value.int := by simp [List.map_set]
  rw [e1] at V'
  simpa using V'
theorem Run.castore (X : Sit Z a0 EL p l e R s m args below meth c own bytes maxL rt nm h0 ws sf T h locs cells slots) {pc i : Nat} {j v v' : Int32} {b : Addr} {cs : List Int32} {Ls : Array Slot} {st : List Value} (A : Arc .char Z h b cs) (hj : j = Int32.ofNat i) (hi : i < cs.length) (hv : nar .char v = v') (ha : b ∈ ws ∨ h0.size ≤ b) (hz : Z.heap.size ≤ b) (hd : decode bytes pc = .ok (.castore, 1))
    (k : ∀ (T' : State) (h' : Heap) (L : List Loc), Sit Z a0 EL p l e R s m args below meth c own bytes maxL rt nm h0 ws sf T' h' (locs ++ L) cells slots → Keep h h' [b] → h'.size = h.size → Arc .char Z h' b (cs.set i v') → Run Z EL sv p e below s h0 ws Q kc ks T' (mkF m (pc + 1) Ls st)) : Run Z EL sv p e below s h0 ws Q kc ks T (mkF m pc Ls (.int v :: .int j :: .ref b :: st)) := by
  obtain ⟨kA, V, hlen⟩ := A
  obtain ⟨cl, A, q1, S, q3, H, G⟩ := id V
  obtain ⟨j1, j2⟩ := idx_of hj hi hlen
  obtain ⟨T', h', L', X', K, W, q⟩ := X.go (k := cells) (n := slots) (wz := [b]) (Q' := fun T' h' _ => Wr h h' b j.toNatClampNeg (.int (nar .char v)) ∧ ∀ t, Steps p.tables e below (T'.setTop (mkF m (pc + 1) Ls st)) t → Steps p.tables e below (T.setTop (mkF m pc Ls (.int v :: .int j :: .ref b :: st))) t) (fun x hx => by cases List.mem_singleton.mp hx; exact ⟨ha, hz⟩) (fun vm0 al hs x hx => by cases List.mem_singleton.mp hx; exact Safe.arv al V (by decide)) fun vm0 Y hZ ho => by
    obtain ⟨T', h', Y', e', W, q⟩ := stC Y X.ex hZ X.eh A (j := j) (by rw [S]; exact j1) (g := mkF m pc Ls (.int v :: .int j :: .ref b :: st)) rfl rfl (X.de hd)
    exact ⟨T', h', _, Y', e', Keep.of_wr W, fun y hy => by cases List.mem_singleton.mp hy; exact hz, W, q⟩
  rw [hv] at W
  exact Run.via q (k T' h' L' X' K W.size (Arc.set hlen A q1 S q3 H G (by rw [← hv]; exact fits_nar_char _) W j2 hi))
theorem Run.bastore (X : Sit Z a0 EL p l e R s m args below meth c own bytes maxL rt nm h0 ws sf T h locs cells slots) {pc i : Nat} {j v v' : Int32} {b : Addr} {cs : List Int32} {Ls : Array Slot} {st : List Value} (A : Arc .byte Z h b cs) (hj : j = Int32.ofNat i) (hi : i < cs.length) (hv : nar .byte v = v') (ha : b ∈ ws ∨ h0.size ≤ b) (hz : Z.heap.size ≤ b) (hsf : b ∈ sf) (hd : decode bytes pc = .ok (.bastore, 1))
    (k : ∀ (T' : State) (h' : Heap) (L : List Loc), Sit Z a0 EL p l e R s m args below meth c own bytes maxL rt nm h0 ws sf T' h' (locs ++ L) cells slots → Keep h h' [b] → h'.size = h.size → Arc .byte Z h' b (cs.set i v') → Run Z EL sv p e below s h0 ws Q kc ks T' (mkF m (pc + 1) Ls st)) : Run Z EL sv p e below s h0 ws Q kc ks T (mkF m pc Ls (.int v :: .int j :: .ref b :: st)) := by
  obtain ⟨kA, V, hlen⟩ := A
  obtain ⟨cl, A, q1, S, q3, H, G⟩ := id V
  obtain ⟨j1, j2⟩ := idx_of hj hi hlen
  obtain ⟨T', h', L', X', K, W, q⟩ := X.go (k := cells) (n := slots) (wz := [b]) (Q' := fun T' h' _ => Wr h h' b j.toNatClampNeg (.int (nar .byte v)) ∧ ∀ t, Steps p.tables e below (T'.setTop (mkF m (pc + 1) Ls st)) t → Steps p.tables e below (T.setTop (mkF m pc Ls (.int v :: .int j :: .ref b :: st))) t) (fun x hx => by cases List.mem_singleton.mp hx; exact ⟨ha, hz⟩) (fun vm0 al hs x hx => by cases List.mem_singleton.mp hx; exact hs b hsf) fun vm0 Y hZ ho => by
    obtain ⟨T', h', Y', e', W, q⟩ := stB Y X.ex hZ X.eh A (j := j) (by rw [S]; exact j1) (g := mkF m pc Ls (.int v :: .int j :: .ref b :: st)) rfl rfl (X.de hd)
    exact ⟨T', h', _, Y', e', Keep.of_wr W, fun y hy => by cases List.mem_singleton.mp hy; exact hz, W, q⟩
  rw [hv] at W
  exact Run.via q (k T' h' L' X' K W.size (Arc.set hlen A q1 S q3 H G (by rw [← hv]; exact fits_nar_byte _) W j2 hi))
theorem Run.caload (X : Sit Z a0 EL p l e R s m args below meth c own bytes maxL rt nm h0 ws sf T h locs cells slots) {pc i : Nat} {j : Int32} {b : Addr} {cs : List Int32} {Ls : Array Slot} {st : List Value} (A : Arc .char Z h b cs) (hj : j = Int32.ofNat i) (hi : i < cs.length) (hd : decode bytes pc = .ok (.caload, 1))
    (k : Run Z EL sv p e below s h0 ws Q kc ks T (mkF m (pc + 1) Ls (.int (cs.getD i 0) :: st))) : Run Z EL sv p e below s h0 ws Q kc ks T (mkF m pc Ls (.int j :: .ref b :: st)) := by
  obtain ⟨kA, V, hlen⟩ := A
  obtain ⟨cl, A, q1, S, q3, H, G⟩ := V
  obtain ⟨j1, j2⟩ := idx_of hj hi hlen
  obtain ⟨-, vm0, k0, Y, r1, r2, -⟩ := id X
  exact Run.via (fun t r => Y.caload X.ex (j := j) (v := .int (cs.getD i 0)) (by rw [X.eh]; exact A.1) (State.isArrayOf_alike r1.alike A.2.1) A.2.2 (by rw [S]; exact j1) (by rw [j2, H i (by rw [S, (n32' hlen).2]; exact hi), getD_map]) (g := mkF m pc Ls (.int j :: .ref b :: st)) rfl rfl (X.de hd) t r) k
theorem Run.baload (X : Sit Z a0 EL p l e R s m args below meth c own bytes maxL rt nm h0 ws sf T h locs cells slots) {pc i : Nat} {j : Int32} {b : Addr} {cs : List Int32} {Ls : Array Slot} {st : List Value} (A : Arc .byte Z h b cs) (hj : j = Int32.ofNat i) (hi : i < cs.length) (hd : decode bytes pc = .ok (.baload, 1))
    (k : Run Z EL sv p e below s h0 ws Q kc ks T (mkF m (pc + 1) Ls (.int (cs.getD i 0) :: st))) : Run Z EL sv p e below s h0 ws Q kc ks T (mkF m pc Ls (.int j :: .ref b :: st)) := by
  obtain ⟨kA, V, hlen⟩ := A
  obtain ⟨cl, A, q1, S, q3, H, G⟩ := V
  obtain ⟨j1, j2⟩ := idx_of hj hi hlen
  obtain ⟨-, vm0, k0, Y, r1, r2, -⟩ := id X
  exact Run.via (fun t r => Y.baloadBytes X.ex (j := j) (v := .int (cs.getD i 0)) (by rw [X.eh]; exact A.1) (State.isArrayOf_alike r1.alike A.2.1) A.2.2 (by rw [S]; exact j1) (by rw [j2, H i (by rw [S, (n32' hlen).2]; exact hi), getD_map]) (g := mkF m pc Ls (.int j :: .ref b :: st)) rfl rfl (X.de hd) t r) k
theorem Run.alen {ty : FieldType} (X : Sit Z a0 EL p l e R s m args below meth c own bytes maxL rt nm h0 ws sf T h locs cells slots) {pc : Nat} {b : Addr} {cs : List Int32} {Ls : Array Slot} {st : List Value} (A : Arc ty Z h b cs) (hd : decode bytes pc = .ok (.arraylength, 1))
    (k : Run Z EL sv p e below s h0 ws Q kc ks T (mkF m (pc + 1) Ls (.int (Int32.ofNat cs.length) :: st))) : Run Z EL sv p e below s h0 ws Q kc ks T (mkF m pc Ls (.ref b :: st)) := by
  obtain ⟨kA, V, hlen⟩ := A
  obtain ⟨cl, A, q1, S, q3, H, G⟩ := V
  obtain ⟨-, vm0, k0, Y, r1, r2, -⟩ := id X
  refine Run.via (fun t r => Y.arraylength X.ex (by rw [X.eh]; exact A.1) (State.isArrayOf_alike r1.alike A.2.1) (g := mkF m pc Ls (.ref b :: st)) rfl rfl (X.de hd) t ?_) k
  rw [len_of S q3]
  exact r
/-! calls -/
theorem Con.payS {y : MethodName} {rm : Room} {as' : Array Value} {wz sz : List Addr} {Q' : Option Value → Heap → Prop} {by' : ByteArray} {ml : Nat} {rt' : Option FieldType} {len W : Nat} {vm0 : Vm} {su : Bool} (C : Con l Z a0 EL su y by' ml rt' rm wz sz as' h Q') (hEL : EW Z a0 EL) (hZ : Z.Warmed39 vm0) (H : CHv Z EL vm0 h) (hsz : ∀ x ∈ sz, x < h.size ∧ Safe Z EL vm0 h x) (wc : (Cond.code y by' ml rt').before a0 Z = true) (wz' : (Cond.initialized y.cls).before a0 Z = true) (hf : rm.frames + 1 ≤ R.frames) (hl : W + (ml + 11) + rm.locals ≤ R.locals) :
    BackS l R p e below (s.setVm vm0) args y len W (fun A a => a = as' ∧ A.U.heap = h ∧ A.cells + rm.cells ≤ R.cells ∧ A.slots + rm.slots ≤ R.slots)
      (fun A _ v B => ∃ L, (Fr Z.heap.size L ∧ Keep h B.U.heap wz ∧ Q' v B.U.heap) ∧ B.locs = A.locs ++ L ∧ B.cells = A.cells + rm.cells ∧ B.slots = A.slots + rm.slots ∧ CHr Z EL vm0 h B.U.vm B.U.heap ∧ (NW = true → (s.setVm vm0).WarmedH B.U.vm) ∧ (su = true → ∀ x, v = some (.ref x) → x < B.U.heap.size ∧ Safe Z EL B.U.vm B.U.heap x)) :=
  BackS.of_freeW (bytes := by') (maxL := ml) (ret := rt') (E := fun _ first o t L k n => k = rm.cells ∧ n = rm.slots ∧ (∃ v, o = .returned v ∧ (Fr Z.heap.size L ∧ Keep h t.heap wz ∧ Q' v t.heap) ∧ (su = true → ∀ x, v = some (.ref x) → x < t.heap.size ∧ Safe Z EL t.vm t.heap x)) ∧ CHr Z EL first.vm h t.vm t.heap ∧ (NW = true → first.WarmedH t.vm)) (C hEL []) hf hl
    (fun m meth c A a Y hp => have hU : Z.Warmed39 A.U.vm := wtrans (s := s.setVm vm0) hZ Y.warmed
      ⟨by show (Cond.and _ .tt).before a A.U = true; rw [Cond.before_and, mv hU wc]; rfl, mv hU wc, mv hU wz', hp.2.2.1, hp.2.2.2⟩)
    (fun m meth c A a g mk Y hp => ⟨hp.1, wtrans (s := s.setVm vm0) hZ Y.warmed, hp.2.1, (CHv.at Y hZ hEL H).1, fun x hx => ⟨(hsz x hx).1, (CHv.at Y hZ hEL H).safe (hsz x hx).1 (hsz x hx).2⟩⟩) (fun _ _ _ _ _ _ _ _ _ => trivial)
    (fun _ _ _ _ ⟨v, L, g1, g2, g3, g4, g5, g6⟩ => ⟨L, _, _, g4, rfl, rfl, ⟨v, g1, g2, g6⟩, g3, g5⟩)
    (fun m meth c A a g mk v t L k n Y hp _ _ ⟨e1, e2, ⟨v', e3, e4, e7⟩, e5, e6⟩ => by
      cases e3; subst e1 e2
      exact ⟨L, e4, rfl, rfl, rfl, (CHv.at Y hZ hEL H).trans e5, fun z => State.WarmedH.trans (t := A.U) Y.warmed (e6 z), e7⟩)
/-- what a call by a contract leaves, whichever instruction made it -/
theorem Run.called (X : Sit Z a0 EL p l e R s m args below meth c own bytes maxL rt nm h0 ws sf T h locs cells slots) {y : MethodName} {by' : ByteArray} {ml : Nat} {rt' : Option FieldType} {rm : Room} {wz sz : List Addr} {Q' : Option Value → Heap → Prop} {len pc W : Nat} {Ls : Array Slot} {st rest : List Value} {as' : Array Value}
    {su : Bool} (C : Con l Z a0 EL su y by' ml rt' rm wz sz as' h Q') (w3 : (Cond.initialized y.cls).before a0 Z = true) (w4 : (Cond.code y by' ml rt').before a0 Z = true) (hf : rm.frames + 1 ≤ R.frames) (hl : W + (ml + 11) + rm.locals ≤ R.locals) (hwz : ∀ x ∈ wz, (x ∈ ws ∨ h0.size ≤ x) ∧ Z.heap.size ≤ x) (hsz : ∀ x ∈ sz, x ∈ sf)
    (q : ∀ vm0, Stand p l e R (s.setVm vm0) m args below meth c T locs cells slots → Z.Warmed39 (s.setVm vm0).vm → (s.setVm vm0).vm.findClass own = some m.cls →
      ∀ {Post : Pt → Array Value → Option Value → Pt → Prop}, BackS l R p e below (s.setVm vm0) args y len W (fun A a => a = as' ∧ A.U.heap = h ∧ A.cells + rm.cells ≤ R.cells ∧ A.slots + rm.slots ≤ R.slots) Post → ∃ (v : Option Value) (vm₁ : Vm) (B : Pt), (s.setVm vm0).WarmedH vm₁ ∧ Stand p l e R ((s.setVm vm0).setVm B.U.vm) m args below meth c B.U B.locs B.cells B.slots ∧ (s.setVm vm0).Since B.U.vm B.U.heap.size ∧ T.heap.size ≤ B.U.heap.size ∧ Post ⟨T.setVm vm₁, locs, cells, slots⟩ as' v B ∧ Steps p.tables e below (T.setTop (mkF m pc Ls st)) (B.U.setTop (mkF m (pc + len) Ls (v.toList ++ rest))))
    (k : ∀ (v : Option Value) (T' : State) (h' : Heap) (L : List Loc), Q' v h' → Sit Z a0 EL p l e R s m args below meth c own bytes maxL rt nm h0 ws sf T' h' (locs ++ L) (cells + rm.cells) (slots + rm.slots) → (su = true → ∀ x, v = some (.ref x) → Sit Z a0 EL p l e R s m args below meth c own bytes maxL rt nm h0 ws (x :: sf) T' h' (locs ++ L) (cells + rm.cells) (slots + rm.slots)) → Keep h h' wz → Run Z EL sv p e below s h0 ws Q kc ks T' (mkF m (pc + len) Ls (v.toList ++ rest))) : Run Z EL sv p e below s h0 ws Q kc ks T (mkF m pc Ls st) := by
  obtain ⟨T', h', L, sx, X', K, v, q3, rfl, sp⟩ := X.reb (k := cells + rm.cells) (n := slots + rm.slots) (wz := wz) (Q' := fun T' h' L sx => ∃ v, Q' v h' ∧ sx = rvs su v ∧ Steps p.tables e below (T.setTop (mkF m pc Ls st)) (T'.setTop (mkF m (pc + len) Ls (v.toList ++ rest)))) hwz fun vm0 k0 Y hZ ho hS hk H hs => by
    obtain ⟨v, vm₁, ⟨T', L', k', n'⟩, -, Y', S', hT, ⟨Lc, ⟨q1, q2, q3⟩, l1, y1, z1, C1, n1, f1⟩, sp⟩ := q vm0 Y hZ ho (C.payS (W := W) X.ew hZ H (fun x hx => hs x (hsz x hx)) w4 w3 hf hl)
    dsimp only [Pt.U, Pt.locs, Pt.cells, Pt.slots] at Y' S' hT l1 y1 z1 sp q1 q2 q3 C1 n1 f1
    subst l1 y1 z1
    exact ⟨T', T'.heap, Lc, T'.vm, T'.heap.size, rvs su v, Y', rfl, q2, q1, State.Warmed39.trans (t := s.setVm vm0) hZ S'.1, (S'.1.alike.findClass _ _).trans ho, hS.trans S' (Nat.le_trans hk (by rw [X.eh] at hT; exact hT)), Nat.le_refl _, C1, n1, rvs_safe f1, v, q3, rfl, sp⟩
  refine Run.on sp (k v T' h' L q3 (X'.less fun x hx => List.mem_append_right _ hx) (fun z x hx => ?_) K)
  subst z hx
  exact X'
theorem Run.callS (X : Sit Z a0 EL p l e R s m args below meth c own bytes maxL rt nm h0 ws sf T h locs cells slots) {y : MethodName} {by' : ByteArray} {ml : Nat} {rt' : Option FieldType} {rm : Room} {wz sz : List Addr} {Q' : Option Value → Heap → Prop} {index pc W : Nat} {Ls : Array Slot} {st argsL rest : List Value} {ps : List FieldType} {rr : Option FieldType}
    {su : Bool} (C : Con l Z a0 EL su y by' ml rt' rm wz sz argsL.toArray h Q') (w1 : (Cond.methodLink own index y).before a0 Z = true) (w2 : (Cond.static y).before a0 Z = true) (w3 : (Cond.initialized y.cls).before a0 Z = true) (w4 : (Cond.code y by' ml rt').before a0 Z = true) (hy : y.cls ≠ "java/lang/invoke/MethodHandle" ∧ y.cls ≠ "java/lang/invoke/VarHandle")
    (hds : parseMethodDescriptor y.desc = some ⟨ps, rr⟩) (hln : argsL.length = ps.length) (hst : st = argsL.reverse ++ rest) (hW : (rest.map fun v => v.category).sum ≤ W) (hsz : Ls.size = maxL) (hd : decode bytes pc = .ok (.invokestatic index, 3)) (hf : rm.frames + 1 ≤ R.frames) (hl : W + (ml + 11) + rm.locals ≤ R.locals) (hc : cells + rm.cells ≤ R.cells) (hs : slots + rm.slots ≤ R.slots) (hwz : ∀ x ∈ wz, (x ∈ ws ∨ h0.size ≤ x) ∧ Z.heap.size ≤ x) (hsf : ∀ x ∈ sz, x ∈ sf)
    (k : ∀ (v : Option Value) (T' : State) (h' : Heap) (L : List Loc), Q' v h' → Sit Z a0 EL p l e R s m args below meth c own bytes maxL rt nm h0 ws sf T' h' (locs ++ L) (cells + rm.cells) (slots + rm.slots) → (su = true → ∀ x, v = some (.ref x) → Sit Z a0 EL p l e R s m args below meth c own bytes maxL rt nm h0 ws (x :: sf) T' h' (locs ++ L) (cells + rm.cells) (slots + rm.slots)) → Keep h h' wz → Run Z EL sv p e below s h0 ws Q kc ks T' (mkF m (pc + 3) Ls (v.toList ++ rest))) : Run Z EL sv p e below s h0 ws Q kc ks T (mkF m pc Ls st) :=
  Run.called X (len := 3) (W := W) C w3 w4 hf hl hwz hsf (fun vm0 Y hZ ho _ bk => callSS Y X.ex (y := y) ho (mv hZ w1) (mv hZ w2) (mv hZ w3) (mv hZ w4) hy bk (g := mkF m pc Ls st) rfl (hsz.trans X.ml.symm) (argsL := argsL) (rest := rest) (lenOf hds hln) hst (by show 2 * 0 + _ ≤ _; omega) (X.de hd) (fun _ _ => ⟨rfl, X.eh, hc, hs⟩)) k
theorem Run.callN (X : Sit Z a0 EL p l e R s m args below meth c own bytes maxL rt nm h0 ws sf T h locs cells slots) {y : MethodName} {by' : ByteArray} {ml : Nat} {rm : Room} {wz sz : List Addr} {Q' : Option Value → Heap → Prop} {index pc W : Nat} {Ls : Array Slot} {a : Addr} {st argsL rest : List Value} {ps : List FieldType} {rr : Option FieldType}
    {su : Bool} (C : Con l Z a0 EL su y by' ml none rm wz sz (.ref a :: argsL).toArray h Q') (hi : y.name = "<init>") (w1 : (Cond.methodLink own index y).before a0 Z = true) (w2 : (Cond.instanceMethod y).before a0 Z = true) (w3 : (Cond.initialized y.cls).before a0 Z = true) (w4 : (Cond.code y by' ml none).before a0 Z = true) (hy : y.cls ≠ "java/lang/invoke/MethodHandle" ∧ y.cls ≠ "java/lang/invoke/VarHandle")
    (hds : parseMethodDescriptor y.desc = some ⟨ps, rr⟩) (hln : argsL.length = ps.length) (hst : st = argsL.reverse ++ .ref a :: rest) (hW : (rest.map fun v => v.category).sum ≤ W) (hsz : Ls.size = maxL) (hd : decode bytes pc = .ok (.invokespecial index, 3)) (hf : rm.frames + 1 ≤ R.frames) (hl : W + (ml + 11) + rm.locals ≤ R.locals) (hc : cells + rm.cells ≤ R.cells) (hs : slots + rm.slots ≤ R.slots) (hwz : ∀ x ∈ wz, (x ∈ ws ∨ h0.size ≤ x) ∧ Z.heap.size ≤ x) (hsf : ∀ x ∈ sz, x ∈ sf)
    (k : ∀ (v : Option Value) (T' : State) (h' : Heap) (L : List Loc), Q' v h' → Sit Z a0 EL p l e R s m args below meth c own bytes maxL rt nm h0 ws sf T' h' (locs ++ L) (cells + rm.cells) (slots + rm.slots) → (su = true → ∀ x, v = some (.ref x) → Sit Z a0 EL p l e R s m args below meth c own bytes maxL rt nm h0 ws (x :: sf) T' h' (locs ++ L) (cells + rm.cells) (slots + rm.slots)) → Keep h h' wz → Run Z EL sv p e below s h0 ws Q kc ks T' (mkF m (pc + 3) Ls (v.toList ++ rest))) : Run Z EL sv p e below s h0 ws Q kc ks T (mkF m pc Ls st) :=
  Run.called X (len := 3) (W := W) C w3 w4 hf hl hwz hsf (fun vm0 Y hZ ho _ bk => Y.specialBackS X.ex (y := y) hi ho (mv hZ w1) (mv hZ w2) (mv hZ w4) hy bk (g := mkF m pc Ls st) rfl (hsz.trans X.ml.symm) (Steps.refl _) (a := a) (argsL := argsL) (rest := rest) (lenOf hds hln) hst (by show 2 * 0 + _ ≤ _; omega) (X.de hd) (fun _ _ => ⟨rfl, X.eh, hc, hs⟩)) k
theorem Run.callV (X : Sit Z a0 EL p l e R s m args below meth c own bytes maxL rt nm h0 ws sf T h locs cells slots) {y : MethodName} {by' : ByteArray} {ml : Nat} {rt' : Option FieldType} {rm : Room} {wz sz : List Addr} {Q' : Option Value → Heap → Prop} {index pc W : Nat} {Ls : Array Slot} {a : Addr} {cls : String} {st argsL rest : List Value} {ps : List FieldType} {rr : Option FieldType}
    {su : Bool} (C : Con l Z a0 EL su y by' ml rt' rm wz sz (.ref a :: argsL).toArray h Q') (E : Exa Z h a cls) (w1 : (Cond.methodLink own index y).before a0 Z = true) (wd : (Cond.declares y).before a0 Z = true) (w2 : (Cond.instanceMethod y).before a0 Z = true) (wl : (Cond.selects cls y y).before a0 Z = true) (w3 : (Cond.initialized y.cls).before a0 Z = true) (w4 : (Cond.code y by' ml rt').before a0 Z = true) (hy : y.cls ≠ "java/lang/invoke/MethodHandle" ∧ y.cls ≠ "java/lang/invoke/VarHandle")
    (hds : parseMethodDescriptor y.desc = some ⟨ps, rr⟩) (hln : argsL.length = ps.length) (hst : st = argsL.reverse ++ .ref a :: rest) (hW : (rest.map fun v => v.category).sum ≤ W) (hsz : Ls.size = maxL) (hd : decode bytes pc = .ok (.invokevirtual index, 3)) (hf : rm.frames + 1 ≤ R.frames) (hl : W + (ml + 11) + rm.locals ≤ R.locals) (hc : cells + rm.cells ≤ R.cells) (hs : slots + rm.slots ≤ R.slots) (hwz : ∀ x ∈ wz, (x ∈ ws ∨ h0.size ≤ x) ∧ Z.heap.size ≤ x) (hsf : ∀ x ∈ sz, x ∈ sf)
    (k : ∀ (v : Option Value) (T' : State) (h' : Heap) (L : List Loc), Q' v h' → Sit Z a0 EL p l e R s m args below meth c own bytes maxL rt nm h0 ws sf T' h' (locs ++ L) (cells + rm.cells) (slots + rm.slots) → (su = true → ∀ x, v = some (.ref x) → Sit Z a0 EL p l e R s m args below meth c own bytes maxL rt nm h0 ws (x :: sf) T' h' (locs ++ L) (cells + rm.cells) (slots + rm.slots)) → Keep h h' wz → Run Z EL sv p e below s h0 ws Q kc ks T' (mkF m (pc + 3) Ls (v.toList ++ rest))) : Run Z EL sv p e below s h0 ws Q kc ks T (mkF m pc Ls st) :=
  Run.called X (len := 3) (W := W) C w3 w4 hf hl hwz hsf (fun vm0 Y hZ ho _ bk => by
    obtain ⟨cq, kq, qa, qb, qc⟩ := isOf (s := s.setVm vm0) hZ X.eh E
    exact Y.virtualBackS X.ex (y := y) (z := y) ho (mv hZ w1) (mv hZ wd) (notFace_of_selects (args := #[]) (mv hZ wl)) (mv hZ wl) (mv hZ w2) hy bk qa qc (g := mkF m pc Ls st) rfl (hsz.trans X.ml.symm) (Steps.refl _) (argsL := argsL) (rest := rest) (lenOf hds hln) hst (by show 2 * 0 + _ ≤ _; omega) (X.de hd) (fun _ _ => ⟨rfl, X.eh, hc, hs⟩)) k
theorem Run.callI (X : Sit Z a0 EL p l e R s m args below meth c own bytes maxL rt nm h0 ws sf T h locs cells slots) {xi y : MethodName} {by' : ByteArray} {ml : Nat} {rt' : Option FieldType} {rm : Room} {wz sz : List Addr} {Q' : Option Value → Heap → Prop} {index count pc W : Nat} {Ls : Array Slot} {a : Addr} {cls : String} {st argsL rest : List Value} {ps : List FieldType} {rr : Option FieldType}
    {su : Bool} (C : Con l Z a0 EL su y by' ml rt' rm wz sz (.ref a :: argsL).toArray h Q') (E : Exa Z h a cls) (w1 : (Cond.methodLink own index xi).before a0 Z = true) (wd : (Cond.declares xi).before a0 Z = true) (wf : (Cond.interfaceMethod xi.cls xi.cls xi.name xi.desc).before a0 Z = true) (hfa : ((Cond.interfaceMethod xi.cls xi.cls xi.name xi.desc).onTables && (Cond.interfaceMethod xi.cls xi.cls xi.name xi.desc).keepsFace) = true) (wl : (Cond.selects cls xi y).before a0 Z = true) (w2 : (Cond.instanceMethod y).before a0 Z = true) (wp : (Cond.publicMethod y).before a0 Z = true) (wu : (Cond.unhidden cls xi.name xi.desc).before a0 Z = true) (wc : (Cond.castable cls xi.cls).before a0 Z = true) (w3 : (Cond.initialized y.cls).before a0 Z = true) (w4 : (Cond.code y by' ml rt').before a0 Z = true) (hy : xi.cls ≠ "java/lang/invoke/MethodHandle" ∧ xi.cls ≠ "java/lang/invoke/VarHandle")
    (hds : parseMethodDescriptor xi.desc = some ⟨ps, rr⟩) (hln : argsL.length = ps.length) (hst : st = argsL.reverse ++ .ref a :: rest) (hW : (rest.map fun v => v.category).sum ≤ W) (hsz : Ls.size = maxL) (hd : decode bytes pc = .ok (.invokeinterface index count, 5)) (hf : rm.frames + 1 ≤ R.frames) (hl : W + (ml + 11) + rm.locals ≤ R.locals) (hc : cells + rm.cells ≤ R.cells) (hs : slots + rm.slots ≤ R.slots) (hwz : ∀ x ∈ wz, (x ∈ ws ∨ h0.size ≤ x) ∧ Z.heap.size ≤ x) (hsf : ∀ x ∈ sz, x ∈ sf)
    (k : ∀ (v : Option Value) (T' : State) (h' : Heap) (L : List Loc), Q' v h' → Sit Z a0 EL p l e R s m args below meth c own bytes maxL rt nm h0 ws sf T' h' (locs ++ L) (cells + rm.cells) (slots + rm.slots) → (su = true → ∀ x, v = some (.ref x) → Sit Z a0 EL p l e R s m args below meth c own bytes maxL rt nm h0 ws (x :: sf) T' h' (locs ++ L) (cells + rm.cells) (slots + rm.slots)) → Keep h h' wz → Run Z EL sv p e below s h0 ws Q kc ks T' (mkF m (pc + 5) Ls (v.toList ++ rest))) : Run Z EL sv p e below s h0 ws Q kc ks T (mkF m pc Ls st) :=
  Run.called X (len := 5) (W := W) C w3 w4 hf hl hwz hsf (fun vm0 Y hZ ho _ bk => by
    obtain ⟨cq, kq, qa, qb, qc⟩ := isOf (s := s.setVm vm0) hZ X.eh E
    exact Y.interfaceBackS X.ex (xi := xi) (y := y) ho (mv hZ w1) (mv hZ wd) (mv hZ wf hfa) (mv hZ wl) (mv hZ w2) (mv hZ wp) (mv hZ wu) (mv hZ wc) hy bk qa qb qc (g := mkF m pc Ls st) rfl (hsz.trans X.ml.symm) (Steps.refl _) (argsL := argsL) (rest := rest) (lenOf hds hln) hst (by show 2 * 0 + _ ≤ _; omega) (X.de hd) (fun _ _ => ⟨rfl, X.eh, hc, hs⟩)) k
end Pre
end Jvm.Pilot.@@N@@
-- part str
namespace Jvm.Pilot.@@N@@
open Jvm Jvm.ClassFile Sem Op Lib Jvm.Free Jvm.Stand Jvm.LawKit Jvm.RoadKit Bundle Jvm.Pilot.@@N@@.Jvm.D
section Strs
variable {Z : State} {a0 : Array Value} {EL : List (String × Nat)} {sv : Bool} {p : Program} {l : Launch} {e : Env} {R : Room} {s : State} {m : MethodId} {args : Array Value} {below : List Frame} {meth : Method} {c : Code} {own : String} {bytes : ByteArray} {maxL : Nat} {rt : Option FieldType} {nm : String} {h0 : Heap} {ws sf : List Addr} {T : State} {h h' : Heap} {locs : List Loc} {cells slots : Nat} {Q : Option Value → Heap → Prop} {kc ks : Nat} {a : Addr} {cs : List Int32}
/-- the String a spells cs -/
def Str (Z : State) (h : Heap) (a : Addr) (cs : List Int32) : Prop :=
  Exa Z h a "java/lang/String" ∧ ∃ (t : Addr) (kb : ClassId) (cd N2 : Int32) (vs : List Value), Fld Z h a "java/lang/String" "value" "[B" (.ref t) ∧ Fld Z h a "java/lang/String" "coder" "B" (.int cd) ∧ Arv Z h t kb .byte N2 vs (.int 0) ∧ StrChars.Road.CodA cs cd N2 vs ∧ (∀ c ∈ cs, ¬ c < 0 ∧ ¬ (65535 : Int32) < c) ∧ cs.length ≤ 4000
theorem Str.keep (S : Str Z h a cs) (K : Keep h h' []) : Str Z h' a cs := by
  obtain ⟨E, t, kb, cd, N2, vs, V, C, A, r⟩ := S
  exact ⟨E.keep K, t, kb, cd, N2, vs, V.keep K nin0, C.keep K nin0, A.keep K nin0, r⟩
theorem Str.lt (S : Str Z h a cs) : a < h.size := S.1.lt
/-- a String as 'new' leaves it -/
def Raw (Z : State) (h : Heap) (a : Addr) : Prop := Exa Z h a "java/lang/String" ∧ Fld Z h a "java/lang/String" "value" "[B" .null ∧ Fld Z h a "java/lang/String" "coder" "B" (.int 0)
theorem Raw.keep {wz : List Addr} (S : Raw Z h a) (K : Keep h h' wz) (q : a ∉ wz) : Raw Z h' a := ⟨S.1.keep K, S.2.1.keep K q, S.2.2.keep K q⟩
/-- the JDK's statics -/
def Sets (Z : State) : Prop := ∃ (z : Int32) (fm : Value), Sta Z Z.heap "java/lang/String" "COMPACT_STRINGS" "Z" (.int z) ∧ ¬ z = 0 ∧ Sta Z Z.heap "jdk/internal/util/Preconditions" "SIOOBE_FORMATTER" "Ljava/util/function/BiFunction;" fm ∧ fm.isRef = true
theorem up (cs : List Int32) (h : ∀ c ∈ cs, ¬ c < 0 ∧ ¬ (255 : Int32) < c) : ∀ c ∈ cs, ¬ c < 0 ∧ ¬ (65535 : Int32) < c := fun c hc => ⟨(h c hc).1, fun q => (h c hc).2 (by rw [Int32.lt_iff_toInt_lt] at q ⊢; have e1 : (65535 : Int32).toInt = 65535 := rfl; have e2 : (255 : Int32).toInt = 255 := rfl; omega)⟩
theorem hwsV (hw : ∀ d ∈ tables_1, d.before a0 Z = true) : ∀ d ∈ StrChars.Road.words, d.before a0 Z = true := fun d hd => hw d ((by decide +kernel : ∀ d ∈ StrChars.Road.words, d ∈ tables_1) d hd)
/-- new String(char[]): the constructor's call -/
theorem Run.initStr (hw : ∀ d ∈ tables_1, d.before a0 Z = true) (hS : Sets Z) (X : Sit Z a0 EL p l e R s m args below meth c own bytes maxL rt nm h0 ws sf T h locs cells slots) {x b : Addr} {index pc W : Nat} {Ls : Array Slot} {rest : List Value} (G : Raw Z h x) (A : Arc .char Z h b cs) (hcs : ∀ c ∈ cs, ¬ c < 0 ∧ ¬ (255 : Int32) < c) (h1 : 0 < cs.length)
    (w1 : (Cond.methodLink own index (⟨"java/lang/String", "<init>", "([C)V"⟩ : MethodName)).before a0 Z = true) (w2 : (Cond.instanceMethod (⟨"java/lang/String", "<init>", "([C)V"⟩ : MethodName)).before a0 Z = true) (wi : (Cond.instantiable "java/lang/String" 4).before a0 Z = true) (hd : decode bytes pc = .ok (.invokespecial index, 3)) (hsz : Ls.size = maxL) (hx : x ∈ ws ∨ h0.size ≤ x) (hz : Z.heap.size ≤ x) (hsf : x ∈ sf)
    (hW : (rest.map fun v => v.category).sum ≤ W) (hf : 4 ≤ R.frames) (hl : W + 65 ≤ R.locals) (hc : cells + 1 ≤ R.cells) (hs : slots + cs.length ≤ R.slots)
    (k : ∀ (T' : State) (h' : Heap) (L : List Loc), Sit Z a0 EL p l e R s m args below meth c own bytes maxL rt nm h0 ws sf T' h' (locs ++ L) (cells + 1) (slots + cs.length) → Keep h h' [x] → Str Z h' x cs → Run Z EL sv p e below s h0 ws Q kc ks T' (mkF m (pc + 3) Ls rest)) : Run Z EL sv p e below s h0 ws Q kc ks T (mkF m pc Ls (.ref b :: .ref x :: rest)) := by
  obtain ⟨zz, fm, S1, S2, S3, S4⟩ := hS
  obtain ⟨kA, V, hlen⟩ := A
  have wc := hwsV hw _ (List.mem_cons_self ..)
  obtain ⟨T', h', L', X', K, S, sp⟩ := X.go (k := cells + 1) (n := slots + cs.length) (wz := [x]) (Q' := fun T' h' _ => Str Z h' x cs ∧ Steps p.tables e below (T.setTop (mkF m pc Ls (.ref b :: .ref x :: rest))) (T'.setTop (mkF m (pc + 3) Ls rest))) (fun y hy => by cases List.mem_singleton.mp hy; exact ⟨hx, hz⟩) (fun vm0 al hs y hy => by cases List.mem_singleton.mp hy; exact hs x hsf) fun vm0 Y hZ ho => by
    obtain ⟨v, _, ⟨T', L', k', n'⟩, -, Y', ⟨Lc, ⟨q1, q2, q3, q4, q5, t, kb, q6, q7, q8, q9, q10⟩, l1, y1, z1⟩, sp⟩ := Y.specialBack X.ex (y := (⟨"java/lang/String", "<init>", "([C)V"⟩ : MethodName)) rfl ho (mv hZ w1) (mv hZ w2) (mv hZ wc) (by decide) (StrChars.Road.backV (W := W) hZ (hwsV hw) (kI := 4) wi (cs := cs) (bs := cs.map fun c => c.toInt8.toInt32) (n := cs.length) hz X.old.1 G.1 G.2.1 G.2.2 V (S1.ext X.old) S2 rfl rfl h1 hlen hcs rfl hf hl) (g := mkF m pc Ls (.ref b :: .ref x :: rest)) rfl (hsz.trans X.ml.symm) (Steps.refl _) (a := x) (argsL := [.ref b]) (rest := rest) (lenOf (ps := [.array .char]) (r := none) (by decide +kernel) rfl) rfl (by show 2 * 0 + _ ≤ _; omega) (X.de hd) (fun _ _ => ⟨rfl, X.eh, hc, hs⟩)
    dsimp only [Pt.U, Pt.locs, Pt.cells, Pt.slots] at Y' l1 y1 z1 sp q1 q2 q3 q4 q5 q6 q7 q8 q9 q10
    subst l1 y1 z1 q1
    exact ⟨T', T'.heap, Lc, Y', rfl, q3, q2, ⟨q4, t, kb, 0, _, _, q9, q5, q10, StrChars.Road.codOf rfl fun c hc => (hcs c hc).2, up _ hcs, hlen⟩, sp⟩
  exact Run.on sp (k T' h' L' X' K S)
theorem nar_i2c (x : Int32) : nar .char (x.toUInt32.toUInt16.toUInt32.toInt32) = x.toUInt32.toUInt16.toUInt32.toInt32 := by simp only [nar, UInt32.toUInt32_toInt32, UInt16.toUInt16_toUInt32]
theorem and255 (x : Int32) : ¬ ((x &&& (255 : Int32)).toUInt32.toUInt16.toUInt32.toInt32) < 0 ∧ ¬ (255 : Int32) < ((x &&& (255 : Int32)).toUInt32.toUInt16.toUInt32.toInt32) := by
  have t : ∀ k : Fin 256, ¬ ((Int32.ofNat k.val).toUInt32.toUInt16.toUInt32.toInt32) < 0 ∧ ¬ (255 : Int32) < ((Int32.ofNat k.val).toUInt32.toUInt16.toUInt32.toInt32) := by decide +kernel
  have h : (x &&& 255).toBitVec.toNat < 256 := by
    simp only [Int32.toBitVec_and, BitVec.toNat_and]
    exact Nat.lt_succ_of_le Nat.and_le_right
  have e : (x &&& 255) = Int32.ofNat (x &&& 255).toBitVec.toNat := by
    apply Int32.toBitVec_inj.mp
    show _ = BitVec.ofNat 32 _
    rw [BitVec.ofNat_toNat]; simp
  rw [e]
  exact t ⟨_, h⟩
/-- a char, that it is one -/
theorem i2c_rng (x : Int32) : ¬ (x.toUInt32.toUInt16.toUInt32.toInt32) < 0 ∧ ¬ (65535 : Int32) < (x.toUInt32.toUInt16.toUInt32.toInt32) := by
  obtain ⟨-, q1, q2⟩ := c_i2c x
  constructor
  · intro q; rw [Int32.lt_iff_toInt_lt] at q; have : (0 : Int32).toInt = 0 := rfl; omega
  · intro q; rw [Int32.lt_iff_toInt_lt] at q; have : (65535 : Int32).toInt = 65535 := rfl; omega
theorem nar_char {c : Int32} (h : ¬ c < 0 ∧ ¬ (65535 : Int32) < c) : nar .char c = c := by
  have q := c_i2c c
  have e : (nar .char c) = c.toUInt32.toUInt16.toUInt32.toInt32 := rfl
  rw [e]
  apply Int32.toInt_inj.mp
  rw [Int32.lt_iff_toInt_lt, Int32.lt_iff_toInt_lt] at h
  have : (0 : Int32).toInt = 0 := rfl
  have : (65535 : Int32).toInt = 65535 := rfl
  omega
/-- an instance method of a JDK class that moves nothing, by a pasted law -/
theorem Run.virtP (X : Sit Z a0 EL p l e R s m args below meth c own bytes maxL rt nm h0 ws sf T h locs cells slots) {y : MethodName} {index pc W : Nat} {Ls : Array Slot} {cls : String} {st argsL rest : List Value} {ps : List FieldType} {rr : Option FieldType} {V : Option Value → Prop}
    (bk : ∀ vm0, Z.Warmed39 (s.setVm vm0).vm → Back l R p e below (s.setVm vm0) args y 3 W (fun P b => b = (.ref a :: argsL).toArray ∧ P.U.heap = h ∧ P.cells + 0 ≤ R.cells ∧ P.slots + 0 ≤ R.slots) (fun P _ v B => ∃ L, (V v ∧ L = [] ∧ B.U.heap = h) ∧ B.locs = P.locs ++ L ∧ B.cells = P.cells + 0 ∧ B.slots = P.slots + 0))
    (E : Exa Z h a cls) (w1 : (Cond.methodLink own index y).before a0 Z = true) (wd : (Cond.declares y).before a0 Z = true) (w2 : (Cond.instanceMethod y).before a0 Z = true) (wl : (Cond.selects cls y y).before a0 Z = true) (hy : y.cls ≠ "java/lang/invoke/MethodHandle" ∧ y.cls ≠ "java/lang/invoke/VarHandle")
    (hds : parseMethodDescriptor y.desc = some ⟨ps, rr⟩) (hln : argsL.length = ps.length) (hst : st = argsL.reverse ++ .ref a :: rest) (hW : (rest.map fun v => v.category).sum ≤ W) (hsz : Ls.size = maxL) (hd : decode bytes pc = .ok (.invokevirtual index, 3)) (hc : cells ≤ R.cells) (hs : slots ≤ R.slots)
    (k : ∀ (v : Option Value) (T' : State), V v → Sit Z a0 EL p l e R s m args below meth c own bytes maxL rt nm h0 ws sf T' h locs cells slots → Run Z EL sv p e below s h0 ws Q kc ks T' (mkF m (pc + 3) Ls (v.toList ++ rest))) : Run Z EL sv p e below s h0 ws Q kc ks T (mkF m pc Ls st) := by
  obtain ⟨T', X', v, hv, sp⟩ := X.same (Q' := fun T' => ∃ v, V v ∧ Steps p.tables e below (T.setTop (mkF m pc Ls st)) (T'.setTop (mkF m (pc + 3) Ls (v.toList ++ rest)))) fun vm0 Y hZ ho => by
    obtain ⟨cq, kq, qa, qb, qc⟩ := isOf (s := s.setVm vm0) hZ X.eh E
    obtain ⟨v, _, ⟨T', L', k', n'⟩, -, Y', ⟨Lc, ⟨q1, q2, q3⟩, l1, y1, z1⟩, sp⟩ := Y.virtualBack X.ex (y := y) (z := y) ho (mv hZ w1) (mv hZ wd) (notFace_of_selects (args := #[]) (mv hZ wl)) (mv hZ wl) (mv hZ w2) hy (bk vm0 hZ) qa qc (g := mkF m pc Ls st) rfl (hsz.trans X.ml.symm) (Steps.refl _) (argsL := argsL) (rest := rest) (lenOf hds hln) hst (by show 2 * 0 + _ ≤ _; omega) (X.de hd) (fun _ _ => ⟨rfl, X.eh, hc, hs⟩)
    dsimp only [Pt.U, Pt.locs, Pt.cells, Pt.slots] at Y' l1 y1 z1 sp q1 q2 q3
    subst l1 y1 z1 q2
    simp only [List.append_nil] at Y'
    exact ⟨T', Y', q3, v, q1, sp⟩
  exact Run.on sp (k v T' hv X')
end Strs
end Jvm.Pilot.@@N@@
-- part strs
-- part own
namespace Jvm.Pilot.@@N@@
open Jvm Jvm.ClassFile Sem Op Lib Jvm.Free Jvm.Stand Jvm.LawKit Jvm.RoadKit Bundle Jvm.Pilot.@@N@@.Jvm.D
theorem setsOf {s : State} {args : Array Value} (hsets : ∀ d ∈ jdkStatics_1, d.before args s = true) : Sets s := by
  have n5 := not_v (Cond.before_iff.mp (hsets _ (List.mem_of_getElem? (i := 2) rfl)))
  obtain ⟨i1, e1⟩ := is_v (Cond.before_iff.mp (hsets _ (List.mem_of_getElem? (i := 1) rfl)))
  obtain ⟨v3, e3, r3⟩ := isR_v (Cond.before_iff.mp (hsets _ (List.mem_of_getElem? (i := 8) rfl)))
  exact ⟨i1, v3, Sta.start e1 (Or.inl (hsets _ (List.mem_of_getElem? (i := 0) rfl))), gotF (Cond.eq_ints e1 (Term.int_eval (0))) n5, Sta.start e3 (Or.inl (hsets _ (List.mem_of_getElem? (i := 7) rfl))), r3⟩
def isP (ty : Int32) : Int32 := if ty = 1 ∨ ty = -15 then 1 else 0
theorem pd___Z : parseMethodDescriptor "()Z" = some ⟨[], some .boolean⟩ := by decide +kernel
theorem pd__Ljava_lang_String_IZ_V : parseMethodDescriptor "(Ljava/lang/String;IZ)V" = some ⟨[(.object "java/lang/String"), .int, .boolean], none⟩ := by decide +kernel
-- part con_ci
theorem cid_0 : decode prog_22_method_1_code 0 = .ok (.aload_n 0, 1) := by decide +kernel
theorem cid_1 : decode prog_22_method_1_code 1 = .ok (.invokespecial 1, 3) := by decide +kernel
theorem cid_4 : decode prog_22_method_1_code 4 = .ok (.aload_n 0, 1) := by decide +kernel
theorem cid_5 : decode prog_22_method_1_code 5 = .ok (.aload_n 1, 1) := by decide +kernel
theorem cid_6 : decode prog_22_method_1_code 6 = .ok (.putfield 7, 3) := by decide +kernel
theorem cid_9 : decode prog_22_method_1_code 9 = .ok (.aload_n 0, 1) := by decide +kernel
theorem cid_10 : decode prog_22_method_1_code 10 = .ok (.iload_n 2, 1) := by decide +kernel
theorem cid_11 : decode prog_22_method_1_code 11 = .ok (.putfield 13, 3) := by decide +kernel
theorem cid_14 : decode prog_22_method_1_code 14 = .ok (.aload_n 0, 1) := by decide +kernel
theorem cid_15 : decode prog_22_method_1_code 15 = .ok (.iload_n 3, 1) := by decide +kernel
theorem cid_16 : decode prog_22_method_1_code 16 = .ok (.putfield 17, 3) := by decide +kernel
theorem cid_19 : decode prog_22_method_1_code 19 = .ok (.return_, 1) := by decide +kernel
set_option maxRecDepth 65536 in
set_option maxHeartbeats 40000000 in
theorem con_ci (l : Launch) {Z : State} {a0 : Array Value} {EL : List (String × Nat)} {h0 : Heap} (hw : ∀ d ∈ tables_1, d.before a0 Z = true) {xa an : Addr} {ty fl : Int32} (EA : Exa Z h0 xa "com/example/structured_keyword_search/structuredkeywordsearch/source/Column") (FA : Fld Z h0 xa "com/example/structured_keyword_search/structuredkeywordsearch/source/Column" "mName" "Ljava/lang/String;" .null) (FB : Fld Z h0 xa "com/example/structured_keyword_search/structuredkeywordsearch/source/Column" "mJdbcType" "I" (.int 0)) (FC : Fld Z h0 xa "com/example/structured_keyword_search/structuredkeywordsearch/source/Column" "mText" "Z" (.int 0)) (hz : Z.heap.size ≤ xa) (O : Ext Z.heap h0) : Con l Z a0 EL false (⟨"com/example/structured_keyword_search/structuredkeywordsearch/source/Column", "<init>", "(Ljava/lang/String;IZ)V"⟩ : MethodName) prog_22_method_1_code 4 none ({ frames := 1, cells := 0, slots := 0, locals := 16 } : Room) [xa] [] #[(.ref xa), (.ref an), (.int ty), (.int fl)] h0 (fun v h => v = none ∧ Exa Z h xa "com/example/structured_keyword_search/structuredkeywordsearch/source/Column" ∧ Fld Z h xa "com/example/structured_keyword_search/structuredkeywordsearch/source/Column" "mJdbcType" "I" (.int ty)) := by
  refine Con.enter (plainFor_of_name (by first | (simp [plainName, overriddenIn]; done) | decide +kernel)) O ?_
  intro p e s m below meth c T0 X0
  rw [show entryFrame m #[(.ref xa), (.ref an), (.int ty), (.int fl)] 4 = (mkF m 0 #[.val (.ref xa), .val (.ref an), .val (.int ty), .val (.int fl)] []) from by first | (simp [entryFrame, mkF, argsToLocals, Value.category]; done) | rfl]
  refine Run.via (fun _ => XS.aloadN X0.at X0.ex rfl (X0.de cid_0) rfl rfl) ?_
  show Run _ _ _ _ _ _ _ _ _ _ _ _ T0 (mkF m 1 #[.val (.ref xa), .val (.ref an), .val (.int ty), .val (.int fl)] [(.ref xa)])
  refine Run.initO X0 (wd hw 36 rfl) (wd hw 12 rfl) (wd hw 13 rfl) rfl cid_1 (by decide) (Nat.le_of_ble_eq_true rfl) ?_
  intro T1 X1
  show Run _ _ _ _ _ _ _ _ _ _ _ _ T1 (mkF m 4 #[.val (.ref xa), .val (.ref an), .val (.int ty), .val (.int fl)] [])
  refine Run.via (fun _ => XS.aloadN X1.at X1.ex rfl (X1.de cid_4) rfl rfl) ?_
  show Run _ _ _ _ _ _ _ _ _ _ _ _ T1 (mkF m 5 #[.val (.ref xa), .val (.ref an), .val (.int ty), .val (.int fl)] [(.ref xa)])
  refine Run.via (fun _ => XS.aloadN X1.at X1.ex rfl (X1.de cid_5) rfl rfl) ?_
  show Run _ _ _ _ _ _ _ _ _ _ _ _ T1 (mkF m 6 #[.val (.ref xa), .val (.ref an), .val (.int ty), .val (.int fl)] [(.ref an), (.ref xa)])
  refine Run.putf X1 (wd hw 37 rfl) Via.refl FA EA (Or.inr ⟨(wd hw 38 rfl), rfl, rfl⟩) (wd hw 31 rfl) (ty := (.object "java/lang/String")) (v' := (.ref an)) (by decide) rfl rfl (Or.inl (List.mem_singleton.mpr rfl)) hz (Or.inl (by decide)) cid_6 ?_
  intro T2 h2 L2 X2 K2 W2 F2 E2
  show Run _ _ _ _ _ _ _ _ _ _ _ _ T2 (mkF m 9 #[.val (.ref xa), .val (.ref an), .val (.int ty), .val (.int fl)] [])
  have FB := (FB.other W2 (Or.inr (slot_ne (Or.inr (wd hw 40 rfl)) (Or.inr (wd hw 38 rfl)) (by decide) (t := .int) (t' := (.object "java/lang/String")) (by decide) (by decide))))
  have FC := (FC.other W2 (Or.inr (slot_ne (Or.inr (wd hw 42 rfl)) (Or.inr (wd hw 38 rfl)) (by decide) (t := .boolean) (t' := (.object "java/lang/String")) (by decide) (by decide))))
  refine Run.via (fun _ => XS.aloadN X2.at X2.ex rfl (X2.de cid_9) rfl rfl) ?_
  show Run _ _ _ _ _ _ _ _ _ _ _ _ T2 (mkF m 10 #[.val (.ref xa), .val (.ref an), .val (.int ty), .val (.int fl)] [(.ref xa)])
  refine Run.via (fun _ => XS.iloadN X2.at X2.ex rfl (X2.de cid_10) rfl) ?_
  show Run _ _ _ _ _ _ _ _ _ _ _ _ T2 (mkF m 11 #[.val (.ref xa), .val (.ref an), .val (.int ty), .val (.int fl)] [(.int ty), (.ref xa)])
  refine Run.putf X2 (wd hw 39 rfl) Via.refl FB E2 (Or.inr ⟨(wd hw 40 rfl), rfl, rfl⟩) (wd hw 31 rfl) (ty := .int) (v' := (.int ty)) (by decide) rfl rfl (Or.inl (List.mem_singleton.mpr rfl)) hz (Or.inl (by decide)) cid_11 ?_
  intro T3 h3 L3 X3 K3 W3 F3 E3
  show Run _ _ _ _ _ _ _ _ _ _ _ _ T3 (mkF m 14 #[.val (.ref xa), .val (.ref an), .val (.int ty), .val (.int fl)] [])
  have FC := (FC.other W3 (Or.inr (slot_ne (Or.inr (wd hw 42 rfl)) (Or.inr (wd hw 40 rfl)) (by decide) (t := .boolean) (t' := .int) (by decide) (by decide))))
  refine Run.via (fun _ => XS.aloadN X3.at X3.ex rfl (X3.de cid_14) rfl rfl) ?_
  show Run _ _ _ _ _ _ _ _ _ _ _ _ T3 (mkF m 15 #[.val (.ref xa), .val (.ref an), .val (.int ty), .val (.int fl)] [(.ref xa)])
  refine Run.via (fun _ => XS.iloadN X3.at X3.ex rfl (X3.de cid_15) rfl) ?_
  show Run _ _ _ _ _ _ _ _ _ _ _ _ T3 (mkF m 16 #[.val (.ref xa), .val (.ref an), .val (.int ty), .val (.int fl)] [(.int fl), (.ref xa)])
  refine Run.putf X3 (wd hw 41 rfl) Via.refl FC E3 (Or.inr ⟨(wd hw 42 rfl), rfl, rfl⟩) (wd hw 31 rfl) (ty := .boolean) (v' := (.int (fl &&& 1))) (by decide) rfl (fits_nar_bool _) (Or.inl (List.mem_singleton.mpr rfl)) hz (Or.inl (by decide)) cid_16 ?_
  intro T4 h4 L4 X4 K4 W4 F4 E4
  show Run _ _ _ _ _ _ _ _ _ _ _ _ T4 (mkF m 19 #[.val (.ref xa), .val (.ref an), .val (.int ty), .val (.int fl)] [])
  have FD := (F3.other W4 (Or.inr (slot_ne (Or.inr (wd hw 40 rfl)) (Or.inr (wd hw 42 rfl)) (by decide) (t := .int) (t' := .boolean) (by decide) (by decide))))
  exact Run.retV X4 rfl cid_19 (Nat.le_of_ble_eq_true rfl) (Nat.le_of_ble_eq_true rfl) (⟨rfl, E4, FD⟩)
-- part con_ip
theorem ipd_0 : decode prog_22_method_4_code 0 = .ok (.aload_n 0, 1) := by decide +kernel
theorem ipd_1 : decode prog_22_method_4_code 1 = .ok (.getfield 13, 3) := by decide +kernel
theorem ipd_4 : decode prog_22_method_4_code 4 = .ok (.iconst 1, 1) := by decide +kernel
theorem ipd_5 : decode prog_22_method_4_code 5 = .ok (.if_icmp .eq 12, 3) := by decide +kernel
theorem ipd_8 : decode prog_22_method_4_code 8 = .ok (.aload_n 0, 1) := by decide +kernel
theorem ipd_9 : decode prog_22_method_4_code 9 = .ok (.getfield 13, 3) := by decide +kernel
theorem ipd_12 : decode prog_22_method_4_code 12 = .ok (.bipush (-15), 2) := by decide +kernel
theorem ipd_14 : decode prog_22_method_4_code 14 = .ok (.if_icmp .ne 7, 3) := by decide +kernel
theorem ipd_17 : decode prog_22_method_4_code 17 = .ok (.iconst 1, 1) := by decide +kernel
theorem ipd_18 : decode prog_22_method_4_code 18 = .ok (.goto 4, 3) := by decide +kernel
theorem ipd_21 : decode prog_22_method_4_code 21 = .ok (.iconst 0, 1) := by decide +kernel
theorem ipd_22 : decode prog_22_method_4_code 22 = .ok (.ireturn, 1) := by decide +kernel
set_option maxRecDepth 65536 in
set_option maxHeartbeats 40000000 in
theorem con_ip (l : Launch) {Z : State} {a0 : Array Value} {EL : List (String × Nat)} {h0 : Heap} (hw : ∀ d ∈ tables_1, d.before a0 Z = true) {xa : Addr} {ty : Int32} (F : Fld Z h0 xa "com/example/structured_keyword_search/structuredkeywordsearch/source/Column" "mJdbcType" "I" (.int ty)) (O : Ext Z.heap h0) : Con l Z a0 EL false (⟨"com/example/structured_keyword_search/structuredkeywordsearch/source/Column", "isPadded", "()Z"⟩ : MethodName) prog_22_method_4_code 1 (some .boolean) ({ frames := 0, cells := 0, slots := 0, locals := 0 } : Room) [] [] #[(.ref xa)] h0 (fun v h => v = some (.int (isP ty)) ∧ h0 = h) := by
  refine Con.enter (plainFor_of_name (by first | (simp [plainName, overriddenIn]; done) | decide +kernel)) O ?_
  intro p e s m below meth c T0 X0
  rw [show entryFrame m #[(.ref xa)] 1 = (mkF m 0 #[.val (.ref xa)] []) from by first | (simp [entryFrame, mkF, argsToLocals, Value.category]; done) | rfl]
  refine Run.via (fun _ => XS.aloadN X0.at X0.ex rfl (X0.de ipd_0) rfl rfl) ?_
  show Run _ _ _ _ _ _ _ _ _ _ _ _ T0 (mkF m 1 #[.val (.ref xa)] [(.ref xa)])
  refine Run.getf X0 (wd hw 39 rfl) Via.refl F ipd_1 ?_
  intro T1 X1
  show Run _ _ _ _ _ _ _ _ _ _ _ _ T1 (mkF m 4 #[.val (.ref xa)] [(.int ty)])
  refine Run.via (fun _ => XS.iconst X1.at X1.ex rfl (X1.de ipd_4)) ?_
  show Run _ _ _ _ _ _ _ _ _ _ _ _ T1 (mkF m 5 #[.val (.ref xa)] [(.int (1 : Int32)), (.int ty)])
  by_cases e1 : ty = (1 : Int32)
  ·
    refine Run.via (fun _ => XS.icmpYes X1.at X1.ex rfl (pc0 := 5) (pc' := 17) rfl (X1.de ipd_5) rfl (teq e1).1 (by decide) (by decide)) ?_
    show Run _ _ _ _ _ _ _ _ _ _ _ _ T1 (mkF m 17 #[.val (.ref xa)] [])
    refine Run.via (fun _ => XS.iconst X1.at X1.ex rfl (X1.de ipd_17)) ?_
    show Run _ _ _ _ _ _ _ _ _ _ _ _ T1 (mkF m 18 #[.val (.ref xa)] [(.int (1 : Int32))])
    refine Run.via (fun _ => XS.goto X1.at X1.ex rfl (pc0 := 18) (pc' := 22) rfl (X1.de ipd_18) (by decide) (by decide)) ?_
    show Run _ _ _ _ _ _ _ _ _ _ _ _ T1 (mkF m 22 #[.val (.ref xa)] [(.int (1 : Int32))])
    exact Run.retN X1 (t := .boolean) rfl (by simp) ipd_22 (Nat.le_of_ble_eq_true rfl) (Nat.le_of_ble_eq_true rfl) (⟨by unfold isP; rw [if_pos (Or.inl e1)]; rfl, rfl⟩)
  ·
    refine Run.via (fun _ => XS.icmpNo X1.at X1.ex rfl (X1.de ipd_5) rfl (feq e1).1) ?_
    show Run _ _ _ _ _ _ _ _ _ _ _ _ T1 (mkF m 8 #[.val (.ref xa)] [])
    refine Run.via (fun _ => XS.aloadN X1.at X1.ex rfl (X1.de ipd_8) rfl rfl) ?_
    show Run _ _ _ _ _ _ _ _ _ _ _ _ T1 (mkF m 9 #[.val (.ref xa)] [(.ref xa)])
    refine Run.getf X1 (wd hw 39 rfl) Via.refl F ipd_9 ?_
    intro T2 X2
    show Run _ _ _ _ _ _ _ _ _ _ _ _ T2 (mkF m 12 #[.val (.ref xa)] [(.int ty)])
    refine Run.via (fun _ => XS.bipush X2.at X2.ex rfl (X2.de ipd_12)) ?_
    show Run _ _ _ _ _ _ _ _ _ _ _ _ T2 (mkF m 14 #[.val (.ref xa)] [(.int (-15 : Int32)), (.int ty)])
    by_cases e2 : ty = (-15 : Int32)
    ·
      refine Run.via (fun _ => XS.icmpNo X2.at X2.ex rfl (X2.de ipd_14) rfl (teq e2).2) ?_
      show Run _ _ _ _ _ _ _ _ _ _ _ _ T2 (mkF m 17 #[.val (.ref xa)] [])
      refine Run.via (fun _ => XS.iconst X2.at X2.ex rfl (X2.de ipd_17)) ?_
      show Run _ _ _ _ _ _ _ _ _ _ _ _ T2 (mkF m 18 #[.val (.ref xa)] [(.int (1 : Int32))])
      refine Run.via (fun _ => XS.goto X2.at X2.ex rfl (pc0 := 18) (pc' := 22) rfl (X2.de ipd_18) (by decide) (by decide)) ?_
      show Run _ _ _ _ _ _ _ _ _ _ _ _ T2 (mkF m 22 #[.val (.ref xa)] [(.int (1 : Int32))])
      exact Run.retN X2 (t := .boolean) rfl (by simp) ipd_22 (Nat.le_of_ble_eq_true rfl) (Nat.le_of_ble_eq_true rfl) (⟨by unfold isP; rw [if_pos (Or.inr e2)]; rfl, rfl⟩)
    ·
      refine Run.via (fun _ => XS.icmpYes X2.at X2.ex rfl (pc0 := 14) (pc' := 21) rfl (X2.de ipd_14) rfl (feq e2).2 (by decide) (by decide)) ?_
      show Run _ _ _ _ _ _ _ _ _ _ _ _ T2 (mkF m 21 #[.val (.ref xa)] [])
      refine Run.via (fun _ => XS.iconst X2.at X2.ex rfl (X2.de ipd_21)) ?_
      show Run _ _ _ _ _ _ _ _ _ _ _ _ T2 (mkF m 22 #[.val (.ref xa)] [(.int (0 : Int32))])
      exact Run.retN X2 (t := .boolean) rfl (by simp) ipd_22 (Nat.le_of_ble_eq_true rfl) (Nat.le_of_ble_eq_true rfl) (⟨by unfold isP; rw [if_neg (fun q => q.elim e1 e2)]; rfl, rfl⟩)
-- part con_law
set_option maxRecDepth 65536 in
set_option maxHeartbeats 40000000 in
theorem con_law (l : Launch) {Z : State} {a0 : Array Value} {EL : List (String × Nat)} {h0 : Heap} (hw : ∀ d ∈ tables_1, d.before a0 Z = true) (hS : Sets Z) {sel raw ch flags : Int32} (O : Ext Z.heap h0) : Con l Z a0 EL false x code maxLocals ret room_1 [] [] #[(.int sel), (.int raw), (.int ch), (.int flags)] h0 (fun v _ => v = some (.int 1)) := by
  refine Con.enter (plainFor_of_name (by first | (simp [plainName, overriddenIn]; done) | decide +kernel)) O ?_
  intro p e s m below meth c T0 X0
  rw [show entryFrame m #[(.int sel), (.int raw), (.int ch), (.int flags)] maxLocals = (mkF m 0 #[.val (.int sel), .val (.int raw), .val (.int ch), .val (.int flags), .unset, .unset, .unset, .unset, .unset, .unset, .unset] []) from by first | (simp [entryFrame, mkF, argsToLocals, Value.category, maxLocals]; done) | rfl]
  refine Run.via (fun _ => XS.iloadN X0.at X0.ex rfl (X0.de at_0) rfl) ?_
  show Run _ _ _ _ _ _ _ _ _ _ _ _ T0 (mkF m 1 #[.val (.int sel), .val (.int raw), .val (.int ch), .val (.int flags), .unset, .unset, .unset, .unset, .unset, .unset, .unset] [(.int sel)])
  refine Run.via (fun _ => XS.bipush X0.at X0.ex rfl (X0.de at_1)) ?_
  show Run _ _ _ _ _ _ _ _ _ _ _ _ T0 (mkF m 3 #[.val (.int sel), .val (.int raw), .val (.int ch), .val (.int flags), .unset, .unset, .unset, .unset, .unset, .unset, .unset] [(.int (7 : Int32)), (.int sel)])
  refine Run.via (fun _ => XS.iand X0.at X0.ex rfl (X0.de at_3) rfl) ?_
  show Run _ _ _ _ _ _ _ _ _ _ _ _ T0 (mkF m 4 #[.val (.int sel), .val (.int raw), .val (.int ch), .val (.int flags), .unset, .unset, .unset, .unset, .unset, .unset, .unset] [(.int (sel &&& (7 : Int32)))])
  refine Run.via (fun _ => XS.istore X0.at X0.ex rfl (X0.de at_4) rfl (l' := #[.val (.int sel), .val (.int raw), .val (.int ch), .val (.int flags), .val (.int (sel &&& (7 : Int32))), .unset, .unset, .unset, .unset, .unset, .unset]) rfl) ?_
  show Run _ _ _ _ _ _ _ _ _ _ _ _ T0 (mkF m 6 #[.val (.int sel), .val (.int raw), .val (.int ch), .val (.int flags), .val (.int (sel &&& (7 : Int32))), .unset, .unset, .unset, .unset, .unset, .unset] [])
  refine Run.via (fun _ => XS.iload X0.at X0.ex rfl (X0.de at_6) rfl) ?_
  show Run _ _ _ _ _ _ _ _ _ _ _ _ T0 (mkF m 8 #[.val (.int sel), .val (.int raw), .val (.int ch), .val (.int flags), .val (.int (sel &&& (7 : Int32))), .unset, .unset, .unset, .unset, .unset, .unset] [(.int (sel &&& (7 : Int32)))])
  have J0 : ∀ (ty : Int32), Run Z EL false p e below s h0 [] (fun v _ => v = some (.int 1)) room_1.cells room_1.slots T0 (mkF m 97 #[.val (.int sel), .val (.int raw), .val (.int ch), .val (.int flags), .val (.int (sel &&& (7 : Int32))), .val (.int ty), .unset, .unset, .unset, .unset, .unset] []) := by
    intro ty
    refine Run.via (fun _ => XS.iconst X0.at X0.ex rfl (X0.de at_97)) ?_
    show Run _ _ _ _ _ _ _ _ _ _ _ _ T0 (mkF m 98 #[.val (.int sel), .val (.int raw), .val (.int ch), .val (.int flags), .val (.int (sel &&& (7 : Int32))), .val (.int ty), .unset, .unset, .unset, .unset, .unset] [(.int (2 : Int32))])
    refine Run.newarr X0 (aty := .char) (n := 2) (cap := 2) (wd hw 0 rfl) rfl at_98 rfl (Nat.le_refl _) (by decide) (Nat.le_of_ble_eq_true rfl) (Nat.le_of_ble_eq_true rfl) ?_
    intro T1 h1 x1 g1 X1 K1 z1 A1
    have A1 : Arc .char Z h1 x1 [(0 : Int32), (0 : Int32)] := A1
    show Run _ _ _ _ _ _ _ _ _ _ _ _ T1 (mkF m 100 #[.val (.int sel), .val (.int raw), .val (.int ch), .val (.int flags), .val (.int (sel &&& (7 : Int32))), .val (.int ty), .unset, .unset, .unset, .unset, .unset] [(.ref x1)])
    refine Run.via (fun _ => XS.astore X1.at X1.ex rfl (X1.de at_100) rfl rfl (l' := #[.val (.int sel), .val (.int raw), .val (.int ch), .val (.int flags), .val (.int (sel &&& (7 : Int32))), .val (.int ty), .val (.ref x1), .unset, .unset, .unset, .unset]) rfl) ?_
    show Run _ _ _ _ _ _ _ _ _ _ _ _ T1 (mkF m 102 #[.val (.int sel), .val (.int raw), .val (.int ch), .val (.int flags), .val (.int (sel &&& (7 : Int32))), .val (.int ty), .val (.ref x1), .unset, .unset, .unset, .unset] [])
    refine Run.via (fun _ => XS.aload X1.at X1.ex rfl (X1.de at_102) rfl rfl) ?_
    show Run _ _ _ _ _ _ _ _ _ _ _ _ T1 (mkF m 104 #[.val (.int sel), .val (.int raw), .val (.int ch), .val (.int flags), .val (.int (sel &&& (7 : Int32))), .val (.int ty), .val (.ref x1), .unset, .unset, .unset, .unset] [(.ref x1)])
    refine Run.via (fun _ => XS.iconst X1.at X1.ex rfl (X1.de at_104)) ?_
    show Run _ _ _ _ _ _ _ _ _ _ _ _ T1 (mkF m 105 #[.val (.int sel), .val (.int raw), .val (.int ch), .val (.int flags), .val (.int (sel &&& (7 : Int32))), .val (.int ty), .val (.ref x1), .unset, .unset, .unset, .unset] [(.int (0 : Int32)), (.ref x1)])
    refine Run.via (fun _ => XS.iloadN X1.at X1.ex rfl (X1.de at_105) rfl) ?_
    show Run _ _ _ _ _ _ _ _ _ _ _ _ T1 (mkF m 106 #[.val (.int sel), .val (.int raw), .val (.int ch), .val (.int flags), .val (.int (sel &&& (7 : Int32))), .val (.int ty), .val (.ref x1), .unset, .unset, .unset, .unset] [(.int ch), (.int (0 : Int32)), (.ref x1)])
    refine Run.via (fun _ => XS.sipush X1.at X1.ex rfl (X1.de at_106)) ?_
    show Run _ _ _ _ _ _ _ _ _ _ _ _ T1 (mkF m 109 #[.val (.int sel), .val (.int raw), .val (.int ch), .val (.int flags), .val (.int (sel &&& (7 : Int32))), .val (.int ty), .val (.ref x1), .unset, .unset, .unset, .unset] [(.int (255 : Int32)), (.int ch), (.int (0 : Int32)), (.ref x1)])
    refine Run.via (fun _ => XS.iand X1.at X1.ex rfl (X1.de at_109) rfl) ?_
    show Run _ _ _ _ _ _ _ _ _ _ _ _ T1 (mkF m 110 #[.val (.int sel), .val (.int raw), .val (.int ch), .val (.int flags), .val (.int (sel &&& (7 : Int32))), .val (.int ty), .val (.ref x1), .unset, .unset, .unset, .unset] [(.int (ch &&& (255 : Int32))), (.int (0 : Int32)), (.ref x1)])
    refine Run.via (fun _ => XS.i2c X1.at X1.ex rfl (X1.de at_110) rfl) ?_
    show Run _ _ _ _ _ _ _ _ _ _ _ _ T1 (mkF m 111 #[.val (.int sel), .val (.int raw), .val (.int ch), .val (.int flags), .val (.int (sel &&& (7 : Int32))), .val (.int ty), .val (.ref x1), .unset, .unset, .unset, .unset] [(.int ((ch &&& (255 : Int32)).toUInt32.toUInt16.toUInt32.toInt32)), (.int (0 : Int32)), (.ref x1)])
    generalize hc0 : ((ch &&& (255 : Int32)).toUInt32.toUInt16.toUInt32.toInt32) = c0
    have r0 : ¬ c0 < 0 ∧ ¬ (255 : Int32) < c0 := by rw [← hc0]; exact and255 _
    have n0 : nar .char c0 = c0 := by rw [← hc0]; exact nar_i2c _
    show Run _ _ _ _ _ _ _ _ _ _ _ _ T1 (mkF m 111 #[.val (.int sel), .val (.int raw), .val (.int ch), .val (.int flags), .val (.int (sel &&& (7 : Int32))), .val (.int ty), .val (.ref x1), .unset, .unset, .unset, .unset] [(.int c0), (.int (0 : Int32)), (.ref x1)])
    refine Run.castore X1 (i := 0) (v' := c0) A1 rfl (Nat.le_of_ble_eq_true rfl) n0 (Or.inr (Nat.le_of_eq g1.symm)) (by have := O.1; omega) at_111 ?_
    intro T2 h2 L2 X2 K2 z2 A2
    have A2 : Arc .char Z h2 x1 [c0, (0 : Int32)] := A2
    show Run _ _ _ _ _ _ _ _ _ _ _ _ T2 (mkF m 112 #[.val (.int sel), .val (.int raw), .val (.int ch), .val (.int flags), .val (.int (sel &&& (7 : Int32))), .val (.int ty), .val (.ref x1), .unset, .unset, .unset, .unset] [])
    refine Run.via (fun _ => XS.aload X2.at X2.ex rfl (X2.de at_112) rfl rfl) ?_
    show Run _ _ _ _ _ _ _ _ _ _ _ _ T2 (mkF m 114 #[.val (.int sel), .val (.int raw), .val (.int ch), .val (.int flags), .val (.int (sel &&& (7 : Int32))), .val (.int ty), .val (.ref x1), .unset, .unset, .unset, .unset] [(.ref x1)])
    refine Run.via (fun _ => XS.iconst X2.at X2.ex rfl (X2.de at_114)) ?_
    show Run _ _ _ _ _ _ _ _ _ _ _ _ T2 (mkF m 115 #[.val (.int sel), .val (.int raw), .val (.int ch), .val (.int flags), .val (.int (sel &&& (7 : Int32))), .val (.int ty), .val (.ref x1), .unset, .unset, .unset, .unset] [(.int (1 : Int32)), (.ref x1)])
    refine Run.via (fun _ => XS.iloadN X2.at X2.ex rfl (X2.de at_115) rfl) ?_
    show Run _ _ _ _ _ _ _ _ _ _ _ _ T2 (mkF m 116 #[.val (.int sel), .val (.int raw), .val (.int ch), .val (.int flags), .val (.int (sel &&& (7 : Int32))), .val (.int ty), .val (.ref x1), .unset, .unset, .unset, .unset] [(.int ch), (.int (1 : Int32)), (.ref x1)])
    refine Run.via (fun _ => XS.bipush X2.at X2.ex rfl (X2.de at_116)) ?_
    show Run _ _ _ _ _ _ _ _ _ _ _ _ T2 (mkF m 118 #[.val (.int sel), .val (.int raw), .val (.int ch), .val (.int flags), .val (.int (sel &&& (7 : Int32))), .val (.int ty), .val (.ref x1), .unset, .unset, .unset, .unset] [(.int (8 : Int32)), (.int ch), (.int (1 : Int32)), (.ref x1)])
    refine Run.via (fun _ => XS.iushr X2.at X2.ex rfl (X2.de at_118) rfl) ?_
    show Run _ _ _ _ _ _ _ _ _ _ _ _ T2 (mkF m 119 #[.val (.int sel), .val (.int raw), .val (.int ch), .val (.int flags), .val (.int (sel &&& (7 : Int32))), .val (.int ty), .val (.ref x1), .unset, .unset, .unset, .unset] [(.int ((ch.toUInt32 >>> ((8 : Int32) &&& 31).toUInt32).toInt32)), (.int (1 : Int32)), (.ref x1)])
    refine Run.via (fun _ => XS.sipush X2.at X2.ex rfl (X2.de at_119)) ?_
    show Run _ _ _ _ _ _ _ _ _ _ _ _ T2 (mkF m 122 #[.val (.int sel), .val (.int raw), .val (.int ch), .val (.int flags), .val (.int (sel &&& (7 : Int32))), .val (.int ty), .val (.ref x1), .unset, .unset, .unset, .unset] [(.int (255 : Int32)), (.int ((ch.toUInt32 >>> ((8 : Int32) &&& 31).toUInt32).toInt32)), (.int (1 : Int32)), (.ref x1)])
    refine Run.via (fun _ => XS.iand X2.at X2.ex rfl (X2.de at_122) rfl) ?_
    show Run _ _ _ _ _ _ _ _ _ _ _ _ T2 (mkF m 123 #[.val (.int sel), .val (.int raw), .val (.int ch), .val (.int flags), .val (.int (sel &&& (7 : Int32))), .val (.int ty), .val (.ref x1), .unset, .unset, .unset, .unset] [(.int (((ch.toUInt32 >>> ((8 : Int32) &&& 31).toUInt32).toInt32) &&& (255 : Int32))), (.int (1 : Int32)), (.ref x1)])
    refine Run.via (fun _ => XS.i2c X2.at X2.ex rfl (X2.de at_123) rfl) ?_
    show Run _ _ _ _ _ _ _ _ _ _ _ _ T2 (mkF m 124 #[.val (.int sel), .val (.int raw), .val (.int ch), .val (.int flags), .val (.int (sel &&& (7 : Int32))), .val (.int ty), .val (.ref x1), .unset, .unset, .unset, .unset] [(.int ((((ch.toUInt32 >>> ((8 : Int32) &&& 31).toUInt32).toInt32) &&& (255 : Int32)).toUInt32.toUInt16.toUInt32.toInt32)), (.int (1 : Int32)), (.ref x1)])
    generalize hc1 : ((((ch.toUInt32 >>> ((8 : Int32) &&& 31).toUInt32).toInt32) &&& (255 : Int32)).toUInt32.toUInt16.toUInt32.toInt32) = c1
    have r1 : ¬ c1 < 0 ∧ ¬ (255 : Int32) < c1 := by rw [← hc1]; exact and255 _
    have n1 : nar .char c1 = c1 := by rw [← hc1]; exact nar_i2c _
    show Run _ _ _ _ _ _ _ _ _ _ _ _ T2 (mkF m 124 #[.val (.int sel), .val (.int raw), .val (.int ch), .val (.int flags), .val (.int (sel &&& (7 : Int32))), .val (.int ty), .val (.ref x1), .unset, .unset, .unset, .unset] [(.int c1), (.int (1 : Int32)), (.ref x1)])
    refine Run.castore X2 (i := 1) (v' := c1) A2 rfl (Nat.le_of_ble_eq_true rfl) n1 (Or.inr (Nat.le_of_eq g1.symm)) (by have := O.1; omega) at_124 ?_
    intro T3 h3 L3 X3 K3 z3 A3
    have A3 : Arc .char Z h3 x1 [c0, c1] := A3
    show Run _ _ _ _ _ _ _ _ _ _ _ _ T3 (mkF m 125 #[.val (.int sel), .val (.int raw), .val (.int ch), .val (.int flags), .val (.int (sel &&& (7 : Int32))), .val (.int ty), .val (.ref x1), .unset, .unset, .unset, .unset] [])
    have u0 : h0.size ≤ h3.size := by have a1 := K1.1; have a2 := K2.1; have a3 := K3.1; omega
    refine Run.new X3 (wd hw 1 rfl) (wd hw 2 rfl) (wd hw 3 rfl) at_125 (Nat.le_of_ble_eq_true rfl) (Nat.le_of_ble_eq_true rfl) ?_
    intro T4 h4 x4 g4 X4 K4 z4 E4 D4
    show Run _ _ _ _ _ _ _ _ _ _ _ _ T4 (mkF m 128 #[.val (.int sel), .val (.int raw), .val (.int ch), .val (.int flags), .val (.int (sel &&& (7 : Int32))), .val (.int ty), .val (.ref x1), .unset, .unset, .unset, .unset] [(.ref x4)])
    have A_s := A3.keep K4 nin0
    have G_s : Raw Z h4 x4 := ⟨E4, D4 (Or.inr (wd hw 29 rfl)) (ty := (.array .byte)) (by decide), D4 (Or.inr (wd hw 27 rfl)) (ty := .byte) (by decide)⟩
    refine Run.via (fun _ => XS.dup X4.at X4.ex rfl (X4.de at_128) rfl rfl) ?_
    show Run _ _ _ _ _ _ _ _ _ _ _ _ T4 (mkF m 129 #[.val (.int sel), .val (.int raw), .val (.int ch), .val (.int flags), .val (.int (sel &&& (7 : Int32))), .val (.int ty), .val (.ref x1), .unset, .unset, .unset, .unset] [(.ref x4), (.ref x4)])
    refine Run.via (fun _ => XS.aload X4.at X4.ex rfl (X4.de at_129) rfl rfl) ?_
    show Run _ _ _ _ _ _ _ _ _ _ _ _ T4 (mkF m 131 #[.val (.int sel), .val (.int raw), .val (.int ch), .val (.int flags), .val (.int (sel &&& (7 : Int32))), .val (.int ty), .val (.ref x1), .unset, .unset, .unset, .unset] [(.ref x1), (.ref x4), (.ref x4)])
    have hcs : ∀ c ∈ ([c0, c1] : List Int32), ¬ c < 0 ∧ ¬ (255 : Int32) < c := by intro c hc; simp only [List.mem_cons, List.not_mem_nil, or_false] at hc; rcases hc with rfl | rfl; exact r0; exact r1
    refine Run.initStr hw hS X4 (cs := [c0, c1]) (W := 1) G_s A_s hcs (Nat.le_of_ble_eq_true rfl) (wd hw 4 rfl) (wd hw 5 rfl) (wd hw 2 rfl) at_131 rfl (Or.inr (by omega)) (by have := O.1; omega) (by simp) (Nat.le_of_ble_eq_true rfl) (by decide) (by decide) (Nat.le_of_ble_eq_true rfl) (Nat.le_of_ble_eq_true rfl) ?_
    intro T5 h5 L5 X5 K5 S5
    show Run _ _ _ _ _ _ _ _ _ _ _ _ T5 (mkF m 134 #[.val (.int sel), .val (.int raw), .val (.int ch), .val (.int flags), .val (.int (sel &&& (7 : Int32))), .val (.int ty), .val (.ref x1), .unset, .unset, .unset, .unset] [(.ref x4)])
    have u1 : h0.size ≤ h5.size := by have b1 := K4.1; have b2 := K5.1; omega
    refine Run.via (fun _ => XS.astore X5.at X5.ex rfl (X5.de at_134) rfl rfl (l' := #[.val (.int sel), .val (.int raw), .val (.int ch), .val (.int flags), .val (.int (sel &&& (7 : Int32))), .val (.int ty), .val (.ref x1), .val (.ref x4), .unset, .unset, .unset]) rfl) ?_
    show Run _ _ _ _ _ _ _ _ _ _ _ _ T5 (mkF m 136 #[.val (.int sel), .val (.int raw), .val (.int ch), .val (.int flags), .val (.int (sel &&& (7 : Int32))), .val (.int ty), .val (.ref x1), .val (.ref x4), .unset, .unset, .unset] [])
    refine Run.via (fun _ => XS.iloadN X5.at X5.ex rfl (X5.de at_136) rfl) ?_
    show Run _ _ _ _ _ _ _ _ _ _ _ _ T5 (mkF m 137 #[.val (.int sel), .val (.int raw), .val (.int ch), .val (.int flags), .val (.int (sel &&& (7 : Int32))), .val (.int ty), .val (.ref x1), .val (.ref x4), .unset, .unset, .unset] [(.int flags)])
    refine Run.via (fun _ => XS.iconst X5.at X5.ex rfl (X5.de at_137)) ?_
    show Run _ _ _ _ _ _ _ _ _ _ _ _ T5 (mkF m 138 #[.val (.int sel), .val (.int raw), .val (.int ch), .val (.int flags), .val (.int (sel &&& (7 : Int32))), .val (.int ty), .val (.ref x1), .val (.ref x4), .unset, .unset, .unset] [(.int (1 : Int32)), (.int flags)])
    refine Run.via (fun _ => XS.iand X5.at X5.ex rfl (X5.de at_138) rfl) ?_
    show Run _ _ _ _ _ _ _ _ _ _ _ _ T5 (mkF m 139 #[.val (.int sel), .val (.int raw), .val (.int ch), .val (.int flags), .val (.int (sel &&& (7 : Int32))), .val (.int ty), .val (.ref x1), .val (.ref x4), .unset, .unset, .unset] [(.int (flags &&& (1 : Int32)))])
    have J29 : ∀ (fl : Int32), Run Z EL false p e below s h0 [] (fun v _ => v = some (.int 1)) room_1.cells room_1.slots T5 (mkF m 147 #[.val (.int sel), .val (.int raw), .val (.int ch), .val (.int flags), .val (.int (sel &&& (7 : Int32))), .val (.int ty), .val (.ref x1), .val (.ref x4), .unset, .unset, .unset] [(.int fl)]) := by
      intro fl
      refine Run.via (fun _ => XS.istore X5.at X5.ex rfl (X5.de at_147) rfl (l' := #[.val (.int sel), .val (.int raw), .val (.int ch), .val (.int flags), .val (.int (sel &&& (7 : Int32))), .val (.int ty), .val (.ref x1), .val (.ref x4), .val (.int fl), .unset, .unset]) rfl) ?_
      show Run _ _ _ _ _ _ _ _ _ _ _ _ T5 (mkF m 149 #[.val (.int sel), .val (.int raw), .val (.int ch), .val (.int flags), .val (.int (sel &&& (7 : Int32))), .val (.int ty), .val (.ref x1), .val (.ref x4), .val (.int fl), .unset, .unset] [])
      refine Run.new X5 (wd hw 30 rfl) (wd hw 31 rfl) (wd hw 32 rfl) at_149 (Nat.le_of_ble_eq_true rfl) (Nat.le_of_ble_eq_true rfl) ?_
      intro T6 h6 x6 g6 X6 K6 z6 E6 D6
      show Run _ _ _ _ _ _ _ _ _ _ _ _ T6 (mkF m 152 #[.val (.int sel), .val (.int raw), .val (.int ch), .val (.int flags), .val (.int (sel &&& (7 : Int32))), .val (.int ty), .val (.ref x1), .val (.ref x4), .val (.int fl), .unset, .unset] [(.ref x6)])
      refine Run.via (fun _ => XS.dup X6.at X6.ex rfl (X6.de at_152) rfl rfl) ?_
      show Run _ _ _ _ _ _ _ _ _ _ _ _ T6 (mkF m 153 #[.val (.int sel), .val (.int raw), .val (.int ch), .val (.int flags), .val (.int (sel &&& (7 : Int32))), .val (.int ty), .val (.ref x1), .val (.ref x4), .val (.int fl), .unset, .unset] [(.ref x6), (.ref x6)])
      refine Run.via (fun _ => XS.aload X6.at X6.ex rfl (X6.de at_153) rfl rfl) ?_
      show Run _ _ _ _ _ _ _ _ _ _ _ _ T6 (mkF m 155 #[.val (.int sel), .val (.int raw), .val (.int ch), .val (.int flags), .val (.int (sel &&& (7 : Int32))), .val (.int ty), .val (.ref x1), .val (.ref x4), .val (.int fl), .unset, .unset] [(.ref x4), (.ref x6), (.ref x6)])
      refine Run.via (fun _ => XS.iload X6.at X6.ex rfl (X6.de at_155) rfl) ?_
      show Run _ _ _ _ _ _ _ _ _ _ _ _ T6 (mkF m 157 #[.val (.int sel), .val (.int raw), .val (.int ch), .val (.int flags), .val (.int (sel &&& (7 : Int32))), .val (.int ty), .val (.ref x1), .val (.ref x4), .val (.int fl), .unset, .unset] [(.int ty), (.ref x4), (.ref x6), (.ref x6)])
      refine Run.via (fun _ => XS.iload X6.at X6.ex rfl (X6.de at_157) rfl) ?_
      show Run _ _ _ _ _ _ _ _ _ _ _ _ T6 (mkF m 159 #[.val (.int sel), .val (.int raw), .val (.int ch), .val (.int flags), .val (.int (sel &&& (7 : Int32))), .val (.int ty), .val (.ref x1), .val (.ref x4), .val (.int fl), .unset, .unset] [(.int fl), (.int ty), (.ref x4), (.ref x6), (.ref x6)])
      refine Run.callN X6 (y := (⟨"com/example/structured_keyword_search/structuredkeywordsearch/source/Column", "<init>", "(Ljava/lang/String;IZ)V"⟩ : MethodName)) (W := 1) (con_ci l hw E6 (D6 (Or.inr (wd hw 38 rfl)) (ty := (.object "java/lang/String")) (by decide)) (D6 (Or.inr (wd hw 40 rfl)) (ty := .int) (by decide)) (D6 (Or.inr (wd hw 42 rfl)) (ty := .boolean) (by decide)) (by have := O.1; omega) X6.old) rfl (wd hw 33 rfl) (wd hw 34 rfl) (wd hw 32 rfl) (wd hw 35 rfl) (by decide) pd__Ljava_lang_String_IZ_V rfl (argsL := [(.ref x4), (.int ty), (.int fl)]) (rest := [(.ref x6)]) rfl (Nat.le_of_ble_eq_true rfl) rfl at_159 (by decide) (by decide) (Nat.le_of_ble_eq_true rfl) (Nat.le_of_ble_eq_true rfl) (fun y hy => by cases List.mem_singleton.mp hy; exact ⟨Or.inr (by omega), by have := O.1; omega⟩) (nofun) ?_
      intro v7 T7 h7 L7 q7 X7 XF7 K7
      obtain ⟨rfl, EC, FJ⟩ := q7
      show Run _ _ _ _ _ _ _ _ _ _ _ _ T7 (mkF m 162 #[.val (.int sel), .val (.int raw), .val (.int ch), .val (.int flags), .val (.int (sel &&& (7 : Int32))), .val (.int ty), .val (.ref x1), .val (.ref x4), .val (.int fl), .unset, .unset] [(.ref x6)])
      refine Run.via (fun _ => XS.astore X7.at X7.ex rfl (X7.de at_162) rfl rfl (l' := #[.val (.int sel), .val (.int raw), .val (.int ch), .val (.int flags), .val (.int (sel &&& (7 : Int32))), .val (.int ty), .val (.ref x1), .val (.ref x4), .val (.int fl), .val (.ref x6), .unset]) rfl) ?_
      show Run _ _ _ _ _ _ _ _ _ _ _ _ T7 (mkF m 164 #[.val (.int sel), .val (.int raw), .val (.int ch), .val (.int flags), .val (.int (sel &&& (7 : Int32))), .val (.int ty), .val (.ref x1), .val (.ref x4), .val (.int fl), .val (.ref x6), .unset] [])
      refine Run.via (fun _ => XS.iload X7.at X7.ex rfl (X7.de at_164) rfl) ?_
      show Run _ _ _ _ _ _ _ _ _ _ _ _ T7 (mkF m 166 #[.val (.int sel), .val (.int raw), .val (.int ch), .val (.int flags), .val (.int (sel &&& (7 : Int32))), .val (.int ty), .val (.ref x1), .val (.ref x4), .val (.int fl), .val (.ref x6), .unset] [(.int ty)])
      refine Run.via (fun _ => XS.iconst X7.at X7.ex rfl (X7.de at_166)) ?_
      show Run _ _ _ _ _ _ _ _ _ _ _ _ T7 (mkF m 167 #[.val (.int sel), .val (.int raw), .val (.int ch), .val (.int flags), .val (.int (sel &&& (7 : Int32))), .val (.int ty), .val (.ref x1), .val (.ref x4), .val (.int fl), .val (.ref x6), .unset] [(.int (1 : Int32)), (.int ty)])
      have JE : ∀ (ex : Int32), ex = isP ty → Run Z EL false p e below s h0 [] (fun v _ => v = some (.int 1)) room_1.cells room_1.slots T7 (mkF m 182 #[.val (.int sel), .val (.int raw), .val (.int ch), .val (.int flags), .val (.int (sel &&& (7 : Int32))), .val (.int ty), .val (.ref x1), .val (.ref x4), .val (.int fl), .val (.ref x6), .unset] [(.int ex)]) := by
        intro ex hex
        subst hex
        show Run _ _ _ _ _ _ _ _ _ _ _ _ T7 (mkF m 182 #[.val (.int sel), .val (.int raw), .val (.int ch), .val (.int flags), .val (.int (sel &&& (7 : Int32))), .val (.int ty), .val (.ref x1), .val (.ref x4), .val (.int fl), .val (.ref x6), .unset] [(.int (isP ty))])
        refine Run.via (fun _ => XS.istore X7.at X7.ex rfl (X7.de at_182) rfl (l' := #[.val (.int sel), .val (.int raw), .val (.int ch), .val (.int flags), .val (.int (sel &&& (7 : Int32))), .val (.int ty), .val (.ref x1), .val (.ref x4), .val (.int fl), .val (.ref x6), .val (.int (isP ty))]) rfl) ?_
        show Run _ _ _ _ _ _ _ _ _ _ _ _ T7 (mkF m 184 #[.val (.int sel), .val (.int raw), .val (.int ch), .val (.int flags), .val (.int (sel &&& (7 : Int32))), .val (.int ty), .val (.ref x1), .val (.ref x4), .val (.int fl), .val (.ref x6), .val (.int (isP ty))] [])
        refine Run.via (fun _ => XS.aload X7.at X7.ex rfl (X7.de at_184) rfl rfl) ?_
        show Run _ _ _ _ _ _ _ _ _ _ _ _ T7 (mkF m 186 #[.val (.int sel), .val (.int raw), .val (.int ch), .val (.int flags), .val (.int (sel &&& (7 : Int32))), .val (.int ty), .val (.ref x1), .val (.ref x4), .val (.int fl), .val (.ref x6), .val (.int (isP ty))] [(.ref x6)])
        refine Run.callV X7 (y := (⟨"com/example/structured_keyword_search/structuredkeywordsearch/source/Column", "isPadded", "()Z"⟩ : MethodName)) (W := 0) (con_ip l hw FJ X7.old) EC (wd hw 43 rfl) (wd hw 44 rfl) (wd hw 45 rfl) (wd hw 46 rfl) (wd hw 32 rfl) (wd hw 47 rfl) (by decide) pd___Z rfl (argsL := []) (rest := []) rfl (Nat.le_of_ble_eq_true rfl) rfl at_186 (by decide) (by decide) (Nat.le_of_ble_eq_true rfl) (Nat.le_of_ble_eq_true rfl) (nofun) (nofun) ?_
        intro v8 T8 h8 L8 q8 X8 XF8 K8
        obtain ⟨rfl, rfl⟩ := q8
        show Run _ _ _ _ _ _ _ _ _ _ _ _ T8 (mkF m 189 #[.val (.int sel), .val (.int raw), .val (.int ch), .val (.int flags), .val (.int (sel &&& (7 : Int32))), .val (.int ty), .val (.ref x1), .val (.ref x4), .val (.int fl), .val (.ref x6), .val (.int (isP ty))] [(.int (isP ty))])
        refine Run.via (fun _ => XS.iload X8.at X8.ex rfl (X8.de at_189) rfl) ?_
        show Run _ _ _ _ _ _ _ _ _ _ _ _ T8 (mkF m 191 #[.val (.int sel), .val (.int raw), .val (.int ch), .val (.int flags), .val (.int (sel &&& (7 : Int32))), .val (.int ty), .val (.ref x1), .val (.ref x4), .val (.int fl), .val (.ref x6), .val (.int (isP ty))] [(.int (isP ty)), (.int (isP ty))])
        refine Run.via (fun _ => XS.icmpNo X8.at X8.ex rfl (X8.de at_191) rfl (teq (rfl : (isP ty) = (isP ty))).2) ?_
        show Run _ _ _ _ _ _ _ _ _ _ _ _ T8 (mkF m 194 #[.val (.int sel), .val (.int raw), .val (.int ch), .val (.int flags), .val (.int (sel &&& (7 : Int32))), .val (.int ty), .val (.ref x1), .val (.ref x4), .val (.int fl), .val (.ref x6), .val (.int (isP ty))] [])
        refine Run.via (fun _ => XS.iconst X8.at X8.ex rfl (X8.de at_194)) ?_
        show Run _ _ _ _ _ _ _ _ _ _ _ _ T8 (mkF m 195 #[.val (.int sel), .val (.int raw), .val (.int ch), .val (.int flags), .val (.int (sel &&& (7 : Int32))), .val (.int ty), .val (.ref x1), .val (.ref x4), .val (.int fl), .val (.ref x6), .val (.int (isP ty))] [(.int (1 : Int32))])
        refine Run.via (fun _ => XS.goto X8.at X8.ex rfl (pc0 := 195) (pc' := 199) rfl (X8.de at_195) (by decide) (by decide)) ?_
        show Run _ _ _ _ _ _ _ _ _ _ _ _ T8 (mkF m 199 #[.val (.int sel), .val (.int raw), .val (.int ch), .val (.int flags), .val (.int (sel &&& (7 : Int32))), .val (.int ty), .val (.ref x1), .val (.ref x4), .val (.int fl), .val (.ref x6), .val (.int (isP ty))] [(.int (1 : Int32))])
        exact Run.retN X8 (t := .boolean) rfl (by simp) at_199 (Nat.le_of_ble_eq_true rfl) (Nat.le_of_ble_eq_true rfl) (rfl)
      by_cases e1 : ty = (1 : Int32)
      ·
        refine Run.via (fun _ => XS.icmpYes X7.at X7.ex rfl (pc0 := 167) (pc' := 177) rfl (X7.de at_167) rfl (teq e1).1 (by decide) (by decide)) ?_
        show Run _ _ _ _ _ _ _ _ _ _ _ _ T7 (mkF m 177 #[.val (.int sel), .val (.int raw), .val (.int ch), .val (.int flags), .val (.int (sel &&& (7 : Int32))), .val (.int ty), .val (.ref x1), .val (.ref x4), .val (.int fl), .val (.ref x6), .unset] [])
        refine Run.via (fun _ => XS.iconst X7.at X7.ex rfl (X7.de at_177)) ?_
        show Run _ _ _ _ _ _ _ _ _ _ _ _ T7 (mkF m 178 #[.val (.int sel), .val (.int raw), .val (.int ch), .val (.int flags), .val (.int (sel &&& (7 : Int32))), .val (.int ty), .val (.ref x1), .val (.ref x4), .val (.int fl), .val (.ref x6), .unset] [(.int (1 : Int32))])
        refine Run.via (fun _ => XS.goto X7.at X7.ex rfl (pc0 := 178) (pc' := 182) rfl (X7.de at_178) (by decide) (by decide)) ?_
        show Run _ _ _ _ _ _ _ _ _ _ _ _ T7 (mkF m 182 #[.val (.int sel), .val (.int raw), .val (.int ch), .val (.int flags), .val (.int (sel &&& (7 : Int32))), .val (.int ty), .val (.ref x1), .val (.ref x4), .val (.int fl), .val (.ref x6), .unset] [(.int (1 : Int32))])
        exact JE _ (by unfold isP; rw [if_pos (Or.inl e1)])
      ·
        refine Run.via (fun _ => XS.icmpNo X7.at X7.ex rfl (X7.de at_167) rfl (feq e1).1) ?_
        show Run _ _ _ _ _ _ _ _ _ _ _ _ T7 (mkF m 170 #[.val (.int sel), .val (.int raw), .val (.int ch), .val (.int flags), .val (.int (sel &&& (7 : Int32))), .val (.int ty), .val (.ref x1), .val (.ref x4), .val (.int fl), .val (.ref x6), .unset] [])
        refine Run.via (fun _ => XS.iload X7.at X7.ex rfl (X7.de at_170) rfl) ?_
        show Run _ _ _ _ _ _ _ _ _ _ _ _ T7 (mkF m 172 #[.val (.int sel), .val (.int raw), .val (.int ch), .val (.int flags), .val (.int (sel &&& (7 : Int32))), .val (.int ty), .val (.ref x1), .val (.ref x4), .val (.int fl), .val (.ref x6), .unset] [(.int ty)])
        refine Run.via (fun _ => XS.bipush X7.at X7.ex rfl (X7.de at_172)) ?_
        show Run _ _ _ _ _ _ _ _ _ _ _ _ T7 (mkF m 174 #[.val (.int sel), .val (.int raw), .val (.int ch), .val (.int flags), .val (.int (sel &&& (7 : Int32))), .val (.int ty), .val (.ref x1), .val (.ref x4), .val (.int fl), .val (.ref x6), .unset] [(.int (-15 : Int32)), (.int ty)])
        by_cases e2 : ty = (-15 : Int32)
        ·
          refine Run.via (fun _ => XS.icmpNo X7.at X7.ex rfl (X7.de at_174) rfl (teq e2).2) ?_
          show Run _ _ _ _ _ _ _ _ _ _ _ _ T7 (mkF m 177 #[.val (.int sel), .val (.int raw), .val (.int ch), .val (.int flags), .val (.int (sel &&& (7 : Int32))), .val (.int ty), .val (.ref x1), .val (.ref x4), .val (.int fl), .val (.ref x6), .unset] [])
          refine Run.via (fun _ => XS.iconst X7.at X7.ex rfl (X7.de at_177)) ?_
          show Run _ _ _ _ _ _ _ _ _ _ _ _ T7 (mkF m 178 #[.val (.int sel), .val (.int raw), .val (.int ch), .val (.int flags), .val (.int (sel &&& (7 : Int32))), .val (.int ty), .val (.ref x1), .val (.ref x4), .val (.int fl), .val (.ref x6), .unset] [(.int (1 : Int32))])
          refine Run.via (fun _ => XS.goto X7.at X7.ex rfl (pc0 := 178) (pc' := 182) rfl (X7.de at_178) (by decide) (by decide)) ?_
          show Run _ _ _ _ _ _ _ _ _ _ _ _ T7 (mkF m 182 #[.val (.int sel), .val (.int raw), .val (.int ch), .val (.int flags), .val (.int (sel &&& (7 : Int32))), .val (.int ty), .val (.ref x1), .val (.ref x4), .val (.int fl), .val (.ref x6), .unset] [(.int (1 : Int32))])
          exact JE _ (by unfold isP; rw [if_pos (Or.inr e2)])
        ·
          refine Run.via (fun _ => XS.icmpYes X7.at X7.ex rfl (pc0 := 174) (pc' := 181) rfl (X7.de at_174) rfl (feq e2).2 (by decide) (by decide)) ?_
          show Run _ _ _ _ _ _ _ _ _ _ _ _ T7 (mkF m 181 #[.val (.int sel), .val (.int raw), .val (.int ch), .val (.int flags), .val (.int (sel &&& (7 : Int32))), .val (.int ty), .val (.ref x1), .val (.ref x4), .val (.int fl), .val (.ref x6), .unset] [])
          refine Run.via (fun _ => XS.iconst X7.at X7.ex rfl (X7.de at_181)) ?_
          show Run _ _ _ _ _ _ _ _ _ _ _ _ T7 (mkF m 182 #[.val (.int sel), .val (.int raw), .val (.int ch), .val (.int flags), .val (.int (sel &&& (7 : Int32))), .val (.int ty), .val (.ref x1), .val (.ref x4), .val (.int fl), .val (.ref x6), .unset] [(.int (0 : Int32))])
          exact JE _ (by unfold isP; rw [if_neg (fun q => q.elim e1 e2)])
    by_cases hfl : (flags &&& (1 : Int32)) = (0 : Int32)
    ·
      refine Run.via (fun _ => XS.ifYes X5.at X5.ex rfl (pc0 := 139) (pc' := 146) rfl (X5.de at_139) rfl ((if0 _ _).trans (teq hfl).1) (by decide) (by decide)) ?_
      show Run _ _ _ _ _ _ _ _ _ _ _ _ T5 (mkF m 146 #[.val (.int sel), .val (.int raw), .val (.int ch), .val (.int flags), .val (.int (sel &&& (7 : Int32))), .val (.int ty), .val (.ref x1), .val (.ref x4), .unset, .unset, .unset] [])
      refine Run.via (fun _ => XS.iconst X5.at X5.ex rfl (X5.de at_146)) ?_
      show Run _ _ _ _ _ _ _ _ _ _ _ _ T5 (mkF m 147 #[.val (.int sel), .val (.int raw), .val (.int ch), .val (.int flags), .val (.int (sel &&& (7 : Int32))), .val (.int ty), .val (.ref x1), .val (.ref x4), .unset, .unset, .unset] [(.int (0 : Int32))])
      exact J29 _
    ·
      refine Run.via (fun _ => XS.ifNo X5.at X5.ex rfl (X5.de at_139) rfl ((if0 _ _).trans (feq hfl).1)) ?_
      show Run _ _ _ _ _ _ _ _ _ _ _ _ T5 (mkF m 142 #[.val (.int sel), .val (.int raw), .val (.int ch), .val (.int flags), .val (.int (sel &&& (7 : Int32))), .val (.int ty), .val (.ref x1), .val (.ref x4), .unset, .unset, .unset] [])
      refine Run.via (fun _ => XS.iconst X5.at X5.ex rfl (X5.de at_142)) ?_
      show Run _ _ _ _ _ _ _ _ _ _ _ _ T5 (mkF m 143 #[.val (.int sel), .val (.int raw), .val (.int ch), .val (.int flags), .val (.int (sel &&& (7 : Int32))), .val (.int ty), .val (.ref x1), .val (.ref x4), .unset, .unset, .unset] [(.int (1 : Int32))])
      refine Run.via (fun _ => XS.goto X5.at X5.ex rfl (pc0 := 143) (pc' := 147) rfl (X5.de at_143) (by decide) (by decide)) ?_
      show Run _ _ _ _ _ _ _ _ _ _ _ _ T5 (mkF m 147 #[.val (.int sel), .val (.int raw), .val (.int ch), .val (.int flags), .val (.int (sel &&& (7 : Int32))), .val (.int ty), .val (.ref x1), .val (.ref x4), .unset, .unset, .unset] [(.int (1 : Int32))])
      exact J29 _
  by_cases hk0 : (sel &&& (7 : Int32)) = (0 : Int32)
  ·
    refine Run.via (fun _ => XS.ifNo X0.at X0.ex rfl (X0.de at_8) rfl ((if0 _ _).trans (teq hk0).2)) ?_
    show Run _ _ _ _ _ _ _ _ _ _ _ _ T0 (mkF m 11 #[.val (.int sel), .val (.int raw), .val (.int ch), .val (.int flags), .val (.int (sel &&& (7 : Int32))), .unset, .unset, .unset, .unset, .unset, .unset] [])
    refine Run.via (fun _ => XS.iconst X0.at X0.ex rfl (X0.de at_11)) ?_
    show Run _ _ _ _ _ _ _ _ _ _ _ _ T0 (mkF m 12 #[.val (.int sel), .val (.int raw), .val (.int ch), .val (.int flags), .val (.int (sel &&& (7 : Int32))), .unset, .unset, .unset, .unset, .unset, .unset] [(.int (1 : Int32))])
    refine Run.via (fun _ => XS.istore X0.at X0.ex rfl (X0.de at_12) rfl (l' := #[.val (.int sel), .val (.int raw), .val (.int ch), .val (.int flags), .val (.int (sel &&& (7 : Int32))), .val (.int (1 : Int32)), .unset, .unset, .unset, .unset, .unset]) rfl) ?_
    show Run _ _ _ _ _ _ _ _ _ _ _ _ T0 (mkF m 14 #[.val (.int sel), .val (.int raw), .val (.int ch), .val (.int flags), .val (.int (sel &&& (7 : Int32))), .val (.int (1 : Int32)), .unset, .unset, .unset, .unset, .unset] [])
    refine Run.via (fun _ => XS.goto X0.at X0.ex rfl (pc0 := 14) (pc' := 97) rfl (X0.de at_14) (by decide) (by decide)) ?_
    show Run _ _ _ _ _ _ _ _ _ _ _ _ T0 (mkF m 97 #[.val (.int sel), .val (.int raw), .val (.int ch), .val (.int flags), .val (.int (sel &&& (7 : Int32))), .val (.int (1 : Int32)), .unset, .unset, .unset, .unset, .unset] [])
    exact J0 _
  ·
    refine Run.via (fun _ => XS.ifYes X0.at X0.ex rfl (pc0 := 8) (pc' := 17) rfl (X0.de at_8) rfl ((if0 _ _).trans (feq hk0).2) (by decide) (by decide)) ?_
    show Run _ _ _ _ _ _ _ _ _ _ _ _ T0 (mkF m 17 #[.val (.int sel), .val (.int raw), .val (.int ch), .val (.int flags), .val (.int (sel &&& (7 : Int32))), .unset, .unset, .unset, .unset, .unset, .unset] [])
    refine Run.via (fun _ => XS.iload X0.at X0.ex rfl (X0.de at_17) rfl) ?_
    show Run _ _ _ _ _ _ _ _ _ _ _ _ T0 (mkF m 19 #[.val (.int sel), .val (.int raw), .val (.int ch), .val (.int flags), .val (.int (sel &&& (7 : Int32))), .unset, .unset, .unset, .unset, .unset, .unset] [(.int (sel &&& (7 : Int32)))])
    refine Run.via (fun _ => XS.iconst X0.at X0.ex rfl (X0.de at_19)) ?_
    show Run _ _ _ _ _ _ _ _ _ _ _ _ T0 (mkF m 20 #[.val (.int sel), .val (.int raw), .val (.int ch), .val (.int flags), .val (.int (sel &&& (7 : Int32))), .unset, .unset, .unset, .unset, .unset, .unset] [(.int (1 : Int32)), (.int (sel &&& (7 : Int32)))])
    by_cases hk1 : (sel &&& (7 : Int32)) = (1 : Int32)
    ·
      refine Run.via (fun _ => XS.icmpNo X0.at X0.ex rfl (X0.de at_20) rfl (teq hk1).2) ?_
      show Run _ _ _ _ _ _ _ _ _ _ _ _ T0 (mkF m 23 #[.val (.int sel), .val (.int raw), .val (.int ch), .val (.int flags), .val (.int (sel &&& (7 : Int32))), .unset, .unset, .unset, .unset, .unset, .unset] [])
      refine Run.via (fun _ => XS.bipush X0.at X0.ex rfl (X0.de at_23)) ?_
      show Run _ _ _ _ _ _ _ _ _ _ _ _ T0 (mkF m 25 #[.val (.int sel), .val (.int raw), .val (.int ch), .val (.int flags), .val (.int (sel &&& (7 : Int32))), .unset, .unset, .unset, .unset, .unset, .unset] [(.int (-15 : Int32))])
      refine Run.via (fun _ => XS.istore X0.at X0.ex rfl (X0.de at_25) rfl (l' := #[.val (.int sel), .val (.int raw), .val (.int ch), .val (.int flags), .val (.int (sel &&& (7 : Int32))), .val (.int (-15 : Int32)), .unset, .unset, .unset, .unset, .unset]) rfl) ?_
      show Run _ _ _ _ _ _ _ _ _ _ _ _ T0 (mkF m 27 #[.val (.int sel), .val (.int raw), .val (.int ch), .val (.int flags), .val (.int (sel &&& (7 : Int32))), .val (.int (-15 : Int32)), .unset, .unset, .unset, .unset, .unset] [])
      refine Run.via (fun _ => XS.goto X0.at X0.ex rfl (pc0 := 27) (pc' := 97) rfl (X0.de at_27) (by decide) (by decide)) ?_
      show Run _ _ _ _ _ _ _ _ _ _ _ _ T0 (mkF m 97 #[.val (.int sel), .val (.int raw), .val (.int ch), .val (.int flags), .val (.int (sel &&& (7 : Int32))), .val (.int (-15 : Int32)), .unset, .unset, .unset, .unset, .unset] [])
      exact J0 _
    ·
      refine Run.via (fun _ => XS.icmpYes X0.at X0.ex rfl (pc0 := 20) (pc' := 30) rfl (X0.de at_20) rfl (feq hk1).2 (by decide) (by decide)) ?_
      show Run _ _ _ _ _ _ _ _ _ _ _ _ T0 (mkF m 30 #[.val (.int sel), .val (.int raw), .val (.int ch), .val (.int flags), .val (.int (sel &&& (7 : Int32))), .unset, .unset, .unset, .unset, .unset, .unset] [])
      refine Run.via (fun _ => XS.iload X0.at X0.ex rfl (X0.de at_30) rfl) ?_
      show Run _ _ _ _ _ _ _ _ _ _ _ _ T0 (mkF m 32 #[.val (.int sel), .val (.int raw), .val (.int ch), .val (.int flags), .val (.int (sel &&& (7 : Int32))), .unset, .unset, .unset, .unset, .unset, .unset] [(.int (sel &&& (7 : Int32)))])
      refine Run.via (fun _ => XS.iconst X0.at X0.ex rfl (X0.de at_32)) ?_
      show Run _ _ _ _ _ _ _ _ _ _ _ _ T0 (mkF m 33 #[.val (.int sel), .val (.int raw), .val (.int ch), .val (.int flags), .val (.int (sel &&& (7 : Int32))), .unset, .unset, .unset, .unset, .unset, .unset] [(.int (2 : Int32)), (.int (sel &&& (7 : Int32)))])
      by_cases hk2 : (sel &&& (7 : Int32)) = (2 : Int32)
      ·
        refine Run.via (fun _ => XS.icmpNo X0.at X0.ex rfl (X0.de at_33) rfl (teq hk2).2) ?_
        show Run _ _ _ _ _ _ _ _ _ _ _ _ T0 (mkF m 36 #[.val (.int sel), .val (.int raw), .val (.int ch), .val (.int flags), .val (.int (sel &&& (7 : Int32))), .unset, .unset, .unset, .unset, .unset, .unset] [])
        refine Run.via (fun _ => XS.iconst X0.at X0.ex rfl (X0.de at_36)) ?_
        show Run _ _ _ _ _ _ _ _ _ _ _ _ T0 (mkF m 37 #[.val (.int sel), .val (.int raw), .val (.int ch), .val (.int flags), .val (.int (sel &&& (7 : Int32))), .unset, .unset, .unset, .unset, .unset, .unset] [(.int (0 : Int32))])
        refine Run.via (fun _ => XS.istore X0.at X0.ex rfl (X0.de at_37) rfl (l' := #[.val (.int sel), .val (.int raw), .val (.int ch), .val (.int flags), .val (.int (sel &&& (7 : Int32))), .val (.int (0 : Int32)), .unset, .unset, .unset, .unset, .unset]) rfl) ?_
        show Run _ _ _ _ _ _ _ _ _ _ _ _ T0 (mkF m 39 #[.val (.int sel), .val (.int raw), .val (.int ch), .val (.int flags), .val (.int (sel &&& (7 : Int32))), .val (.int (0 : Int32)), .unset, .unset, .unset, .unset, .unset] [])
        refine Run.via (fun _ => XS.goto X0.at X0.ex rfl (pc0 := 39) (pc' := 97) rfl (X0.de at_39) (by decide) (by decide)) ?_
        show Run _ _ _ _ _ _ _ _ _ _ _ _ T0 (mkF m 97 #[.val (.int sel), .val (.int raw), .val (.int ch), .val (.int flags), .val (.int (sel &&& (7 : Int32))), .val (.int (0 : Int32)), .unset, .unset, .unset, .unset, .unset] [])
        exact J0 _
      ·
        refine Run.via (fun _ => XS.icmpYes X0.at X0.ex rfl (pc0 := 33) (pc' := 42) rfl (X0.de at_33) rfl (feq hk2).2 (by decide) (by decide)) ?_
        show Run _ _ _ _ _ _ _ _ _ _ _ _ T0 (mkF m 42 #[.val (.int sel), .val (.int raw), .val (.int ch), .val (.int flags), .val (.int (sel &&& (7 : Int32))), .unset, .unset, .unset, .unset, .unset, .unset] [])
        refine Run.via (fun _ => XS.iload X0.at X0.ex rfl (X0.de at_42) rfl) ?_
        show Run _ _ _ _ _ _ _ _ _ _ _ _ T0 (mkF m 44 #[.val (.int sel), .val (.int raw), .val (.int ch), .val (.int flags), .val (.int (sel &&& (7 : Int32))), .unset, .unset, .unset, .unset, .unset, .unset] [(.int (sel &&& (7 : Int32)))])
        refine Run.via (fun _ => XS.iconst X0.at X0.ex rfl (X0.de at_44)) ?_
        show Run _ _ _ _ _ _ _ _ _ _ _ _ T0 (mkF m 45 #[.val (.int sel), .val (.int raw), .val (.int ch), .val (.int flags), .val (.int (sel &&& (7 : Int32))), .unset, .unset, .unset, .unset, .unset, .unset] [(.int (3 : Int32)), (.int (sel &&& (7 : Int32)))])
        by_cases hk3 : (sel &&& (7 : Int32)) = (3 : Int32)
        ·
          refine Run.via (fun _ => XS.icmpNo X0.at X0.ex rfl (X0.de at_45) rfl (teq hk3).2) ?_
          show Run _ _ _ _ _ _ _ _ _ _ _ _ T0 (mkF m 48 #[.val (.int sel), .val (.int raw), .val (.int ch), .val (.int flags), .val (.int (sel &&& (7 : Int32))), .unset, .unset, .unset, .unset, .unset, .unset] [])
          refine Run.via (fun _ => XS.iconst X0.at X0.ex rfl (X0.de at_48)) ?_
          show Run _ _ _ _ _ _ _ _ _ _ _ _ T0 (mkF m 49 #[.val (.int sel), .val (.int raw), .val (.int ch), .val (.int flags), .val (.int (sel &&& (7 : Int32))), .unset, .unset, .unset, .unset, .unset, .unset] [(.int (2 : Int32))])
          refine Run.via (fun _ => XS.istore X0.at X0.ex rfl (X0.de at_49) rfl (l' := #[.val (.int sel), .val (.int raw), .val (.int ch), .val (.int flags), .val (.int (sel &&& (7 : Int32))), .val (.int (2 : Int32)), .unset, .unset, .unset, .unset, .unset]) rfl) ?_
          show Run _ _ _ _ _ _ _ _ _ _ _ _ T0 (mkF m 51 #[.val (.int sel), .val (.int raw), .val (.int ch), .val (.int flags), .val (.int (sel &&& (7 : Int32))), .val (.int (2 : Int32)), .unset, .unset, .unset, .unset, .unset] [])
          refine Run.via (fun _ => XS.goto X0.at X0.ex rfl (pc0 := 51) (pc' := 97) rfl (X0.de at_51) (by decide) (by decide)) ?_
          show Run _ _ _ _ _ _ _ _ _ _ _ _ T0 (mkF m 97 #[.val (.int sel), .val (.int raw), .val (.int ch), .val (.int flags), .val (.int (sel &&& (7 : Int32))), .val (.int (2 : Int32)), .unset, .unset, .unset, .unset, .unset] [])
          exact J0 _
        ·
          refine Run.via (fun _ => XS.icmpYes X0.at X0.ex rfl (pc0 := 45) (pc' := 54) rfl (X0.de at_45) rfl (feq hk3).2 (by decide) (by decide)) ?_
          show Run _ _ _ _ _ _ _ _ _ _ _ _ T0 (mkF m 54 #[.val (.int sel), .val (.int raw), .val (.int ch), .val (.int flags), .val (.int (sel &&& (7 : Int32))), .unset, .unset, .unset, .unset, .unset, .unset] [])
          refine Run.via (fun _ => XS.iload X0.at X0.ex rfl (X0.de at_54) rfl) ?_
          show Run _ _ _ _ _ _ _ _ _ _ _ _ T0 (mkF m 56 #[.val (.int sel), .val (.int raw), .val (.int ch), .val (.int flags), .val (.int (sel &&& (7 : Int32))), .unset, .unset, .unset, .unset, .unset, .unset] [(.int (sel &&& (7 : Int32)))])
          refine Run.via (fun _ => XS.iconst X0.at X0.ex rfl (X0.de at_56)) ?_
          show Run _ _ _ _ _ _ _ _ _ _ _ _ T0 (mkF m 57 #[.val (.int sel), .val (.int raw), .val (.int ch), .val (.int flags), .val (.int (sel &&& (7 : Int32))), .unset, .unset, .unset, .unset, .unset, .unset] [(.int (4 : Int32)), (.int (sel &&& (7 : Int32)))])
          by_cases hk4 : (sel &&& (7 : Int32)) = (4 : Int32)
          ·
            refine Run.via (fun _ => XS.icmpNo X0.at X0.ex rfl (X0.de at_57) rfl (teq hk4).2) ?_
            show Run _ _ _ _ _ _ _ _ _ _ _ _ T0 (mkF m 60 #[.val (.int sel), .val (.int raw), .val (.int ch), .val (.int flags), .val (.int (sel &&& (7 : Int32))), .unset, .unset, .unset, .unset, .unset, .unset] [])
            refine Run.via (fun _ => XS.bipush X0.at X0.ex rfl (X0.de at_60)) ?_
            show Run _ _ _ _ _ _ _ _ _ _ _ _ T0 (mkF m 62 #[.val (.int sel), .val (.int raw), .val (.int ch), .val (.int flags), .val (.int (sel &&& (7 : Int32))), .unset, .unset, .unset, .unset, .unset, .unset] [(.int (-14 : Int32))])
            refine Run.via (fun _ => XS.istore X0.at X0.ex rfl (X0.de at_62) rfl (l' := #[.val (.int sel), .val (.int raw), .val (.int ch), .val (.int flags), .val (.int (sel &&& (7 : Int32))), .val (.int (-14 : Int32)), .unset, .unset, .unset, .unset, .unset]) rfl) ?_
            show Run _ _ _ _ _ _ _ _ _ _ _ _ T0 (mkF m 64 #[.val (.int sel), .val (.int raw), .val (.int ch), .val (.int flags), .val (.int (sel &&& (7 : Int32))), .val (.int (-14 : Int32)), .unset, .unset, .unset, .unset, .unset] [])
            refine Run.via (fun _ => XS.goto X0.at X0.ex rfl (pc0 := 64) (pc' := 97) rfl (X0.de at_64) (by decide) (by decide)) ?_
            show Run _ _ _ _ _ _ _ _ _ _ _ _ T0 (mkF m 97 #[.val (.int sel), .val (.int raw), .val (.int ch), .val (.int flags), .val (.int (sel &&& (7 : Int32))), .val (.int (-14 : Int32)), .unset, .unset, .unset, .unset, .unset] [])
            exact J0 _
          ·
            refine Run.via (fun _ => XS.icmpYes X0.at X0.ex rfl (pc0 := 57) (pc' := 67) rfl (X0.de at_57) rfl (feq hk4).2 (by decide) (by decide)) ?_
            show Run _ _ _ _ _ _ _ _ _ _ _ _ T0 (mkF m 67 #[.val (.int sel), .val (.int raw), .val (.int ch), .val (.int flags), .val (.int (sel &&& (7 : Int32))), .unset, .unset, .unset, .unset, .unset, .unset] [])
            refine Run.via (fun _ => XS.iload X0.at X0.ex rfl (X0.de at_67) rfl) ?_
            show Run _ _ _ _ _ _ _ _ _ _ _ _ T0 (mkF m 69 #[.val (.int sel), .val (.int raw), .val (.int ch), .val (.int flags), .val (.int (sel &&& (7 : Int32))), .unset, .unset, .unset, .unset, .unset, .unset] [(.int (sel &&& (7 : Int32)))])
            refine Run.via (fun _ => XS.iconst X0.at X0.ex rfl (X0.de at_69)) ?_
            show Run _ _ _ _ _ _ _ _ _ _ _ _ T0 (mkF m 70 #[.val (.int sel), .val (.int raw), .val (.int ch), .val (.int flags), .val (.int (sel &&& (7 : Int32))), .unset, .unset, .unset, .unset, .unset, .unset] [(.int (5 : Int32)), (.int (sel &&& (7 : Int32)))])
            by_cases hk5 : (sel &&& (7 : Int32)) = (5 : Int32)
            ·
              refine Run.via (fun _ => XS.icmpNo X0.at X0.ex rfl (X0.de at_70) rfl (teq hk5).2) ?_
              show Run _ _ _ _ _ _ _ _ _ _ _ _ T0 (mkF m 73 #[.val (.int sel), .val (.int raw), .val (.int ch), .val (.int flags), .val (.int (sel &&& (7 : Int32))), .unset, .unset, .unset, .unset, .unset, .unset] [])
              refine Run.via (fun _ => XS.bipush X0.at X0.ex rfl (X0.de at_73)) ?_
              show Run _ _ _ _ _ _ _ _ _ _ _ _ T0 (mkF m 75 #[.val (.int sel), .val (.int raw), .val (.int ch), .val (.int flags), .val (.int (sel &&& (7 : Int32))), .unset, .unset, .unset, .unset, .unset, .unset] [(.int (-16 : Int32))])
              refine Run.via (fun _ => XS.istore X0.at X0.ex rfl (X0.de at_75) rfl (l' := #[.val (.int sel), .val (.int raw), .val (.int ch), .val (.int flags), .val (.int (sel &&& (7 : Int32))), .val (.int (-16 : Int32)), .unset, .unset, .unset, .unset, .unset]) rfl) ?_
              show Run _ _ _ _ _ _ _ _ _ _ _ _ T0 (mkF m 77 #[.val (.int sel), .val (.int raw), .val (.int ch), .val (.int flags), .val (.int (sel &&& (7 : Int32))), .val (.int (-16 : Int32)), .unset, .unset, .unset, .unset, .unset] [])
              refine Run.via (fun _ => XS.goto X0.at X0.ex rfl (pc0 := 77) (pc' := 97) rfl (X0.de at_77) (by decide) (by decide)) ?_
              show Run _ _ _ _ _ _ _ _ _ _ _ _ T0 (mkF m 97 #[.val (.int sel), .val (.int raw), .val (.int ch), .val (.int flags), .val (.int (sel &&& (7 : Int32))), .val (.int (-16 : Int32)), .unset, .unset, .unset, .unset, .unset] [])
              exact J0 _
            ·
              refine Run.via (fun _ => XS.icmpYes X0.at X0.ex rfl (pc0 := 70) (pc' := 80) rfl (X0.de at_70) rfl (feq hk5).2 (by decide) (by decide)) ?_
              show Run _ _ _ _ _ _ _ _ _ _ _ _ T0 (mkF m 80 #[.val (.int sel), .val (.int raw), .val (.int ch), .val (.int flags), .val (.int (sel &&& (7 : Int32))), .unset, .unset, .unset, .unset, .unset, .unset] [])
              refine Run.via (fun _ => XS.iload X0.at X0.ex rfl (X0.de at_80) rfl) ?_
              show Run _ _ _ _ _ _ _ _ _ _ _ _ T0 (mkF m 82 #[.val (.int sel), .val (.int raw), .val (.int ch), .val (.int flags), .val (.int (sel &&& (7 : Int32))), .unset, .unset, .unset, .unset, .unset, .unset] [(.int (sel &&& (7 : Int32)))])
              refine Run.via (fun _ => XS.bipush X0.at X0.ex rfl (X0.de at_82)) ?_
              show Run _ _ _ _ _ _ _ _ _ _ _ _ T0 (mkF m 84 #[.val (.int sel), .val (.int raw), .val (.int ch), .val (.int flags), .val (.int (sel &&& (7 : Int32))), .unset, .unset, .unset, .unset, .unset, .unset] [(.int (6 : Int32)), (.int (sel &&& (7 : Int32)))])
              by_cases hk6 : (sel &&& (7 : Int32)) = (6 : Int32)
              ·
                refine Run.via (fun _ => XS.icmpNo X0.at X0.ex rfl (X0.de at_84) rfl (teq hk6).2) ?_
                show Run _ _ _ _ _ _ _ _ _ _ _ _ T0 (mkF m 87 #[.val (.int sel), .val (.int raw), .val (.int ch), .val (.int flags), .val (.int (sel &&& (7 : Int32))), .unset, .unset, .unset, .unset, .unset, .unset] [])
                refine Run.via (fun _ => XS.bipush X0.at X0.ex rfl (X0.de at_87)) ?_
                show Run _ _ _ _ _ _ _ _ _ _ _ _ T0 (mkF m 89 #[.val (.int sel), .val (.int raw), .val (.int ch), .val (.int flags), .val (.int (sel &&& (7 : Int32))), .unset, .unset, .unset, .unset, .unset, .unset] [(.int (12 : Int32))])
                refine Run.via (fun _ => XS.istore X0.at X0.ex rfl (X0.de at_89) rfl (l' := #[.val (.int sel), .val (.int raw), .val (.int ch), .val (.int flags), .val (.int (sel &&& (7 : Int32))), .val (.int (12 : Int32)), .unset, .unset, .unset, .unset, .unset]) rfl) ?_
                show Run _ _ _ _ _ _ _ _ _ _ _ _ T0 (mkF m 91 #[.val (.int sel), .val (.int raw), .val (.int ch), .val (.int flags), .val (.int (sel &&& (7 : Int32))), .val (.int (12 : Int32)), .unset, .unset, .unset, .unset, .unset] [])
                refine Run.via (fun _ => XS.goto X0.at X0.ex rfl (pc0 := 91) (pc' := 97) rfl (X0.de at_91) (by decide) (by decide)) ?_
                show Run _ _ _ _ _ _ _ _ _ _ _ _ T0 (mkF m 97 #[.val (.int sel), .val (.int raw), .val (.int ch), .val (.int flags), .val (.int (sel &&& (7 : Int32))), .val (.int (12 : Int32)), .unset, .unset, .unset, .unset, .unset] [])
                exact J0 _
              ·
                refine Run.via (fun _ => XS.icmpYes X0.at X0.ex rfl (pc0 := 84) (pc' := 94) rfl (X0.de at_84) rfl (feq hk6).2 (by decide) (by decide)) ?_
                show Run _ _ _ _ _ _ _ _ _ _ _ _ T0 (mkF m 94 #[.val (.int sel), .val (.int raw), .val (.int ch), .val (.int flags), .val (.int (sel &&& (7 : Int32))), .unset, .unset, .unset, .unset, .unset, .unset] [])
                refine Run.via (fun _ => XS.iloadN X0.at X0.ex rfl (X0.de at_94) rfl) ?_
                show Run _ _ _ _ _ _ _ _ _ _ _ _ T0 (mkF m 95 #[.val (.int sel), .val (.int raw), .val (.int ch), .val (.int flags), .val (.int (sel &&& (7 : Int32))), .unset, .unset, .unset, .unset, .unset, .unset] [(.int raw)])
                refine Run.via (fun _ => XS.istore X0.at X0.ex rfl (X0.de at_95) rfl (l' := #[.val (.int sel), .val (.int raw), .val (.int ch), .val (.int flags), .val (.int (sel &&& (7 : Int32))), .val (.int raw), .unset, .unset, .unset, .unset, .unset]) rfl) ?_
                show Run _ _ _ _ _ _ _ _ _ _ _ _ T0 (mkF m 97 #[.val (.int sel), .val (.int raw), .val (.int ch), .val (.int flags), .val (.int (sel &&& (7 : Int32))), .val (.int raw), .unset, .unset, .unset, .unset, .unset] [])
                exact J0 _
-- part comes
set_option maxRecDepth 65536 in
set_option maxHeartbeats 40000000 in
theorem comes_1 {Post : Tables → Env → Array Value → State → Outcome → State → Prop} (hpost : ∀ tb e args s v u, (limb_1_1.after args s (.returned v) u = true ∧ limb_1_2.after args s (.returned v) u = true ∧ True) → FrameEnd s (.returned v) u (Jvm.fieldLocs frame_1_writes args s ++ Jvm.arrayLocs frame_1_arrays args s ++ Jvm.staticLocs frame_1_statics s) 16 128 → Post tb e args s (.returned v) u) :
    ArmFor flags0 classFile x code maxLocals ret World_1 tables_1 room_1 Calls_1 rest_1 Pre_1 Post := by
  intro l hfl _ _ p e ha hc hk s m args below hf hA hF happ hP
  obtain ⟨hcalls, hrest, hpre⟩ := hP
  obtain ⟨-, -, -, hnamed, -, -, -, hat⟩ := (Spec.applies_iff hf).mp happ
  obtain ⟨hg, hn⟩ := and_e (Cond.before_iff.mp (show (Jvm.Cond.and given_1 narrow_1).before args s = true from hpre))
  obtain ⟨hcount, hg0⟩ := and_e hg
  obtain ⟨ga0, hg1⟩ := and_e hg0
  obtain ⟨ga1, hg2⟩ := and_e hg1
  obtain ⟨ga2, hg3⟩ := and_e hg2
  have ga3 := hg3
  obtain ⟨w0, w1, w2, w3, rfl⟩ : ∃ w0 w1 w2 w3 : Value, args = #[w0, w1, w2, w3] := by
    have hs : args.size = 4 := by simpa [Cond.value, given_1] using hcount
    obtain ⟨L⟩ := args
    match L, hs with
    | [w0, w1, w2, w3], _ => exact ⟨w0, w1, w2, w3, rfl⟩
  have hw := fun d (hd : d ∈ tables_1) => atoms_spec (ws := Jvm.Cond.code x code maxLocals ret :: tables_1) hat d (List.mem_cons_of_mem _ hd)
  obtain ⟨i0, ei0⟩ := is_v ga0
  obtain rfl : w0 = (.int i0) := Option.some.inj ei0
  obtain ⟨i1, ei1⟩ := is_v ga1
  obtain rfl : w1 = (.int i1) := Option.some.inj ei1
  obtain ⟨i2, ei2⟩ := is_v ga2
  obtain rfl : w2 = (.int i2) := Option.some.inj ei2
  obtain ⟨i3, ei3⟩ := is_v ga3
  obtain rfl : w3 = (.int i3) := Option.some.inj ei3
  obtain ⟨hsets, hown0⟩ := atoms_of _ (rest_1_c_eq ▸ (show rest_1_c.before _ s = true from hrest))
  have hS : Sets s := setsOf hsets
  have hEW : EW s #[(.int i0), (.int i1), (.int i2), (.int i3)] [] := EW.nil
  have hCH : CHv s [] s.vm s.heap := fun p hp => nomatch hp
  obtain ⟨n, o, h1, h2, h3, _, L, rfl, ⟨N, -, rfl⟩, -, hq, hnw, -⟩ := con_law l hw hS (sel := i0) (raw := i1) (ch := i2) (flags := i3) (h0 := s.heap) ⟨Nat.le_refl _, fun _ _ q => q⟩ hEW tables_1 p e ha hc hk s m _ below hf ((Spec.applies_iff_loose hf).mp happ).1 ⟨rfl, State.Warmed39.refl s, rfl, hCH, nofun⟩ trivial
  refine ⟨n, _, h1, h2, h3, hpost _ _ _ _ _ _ ⟨Cond.after_iff.mpr rfl, Cond.after_iff.mpr (eq_i res_at (Term.int_eval (1)) rfl), trivial⟩ ⟨hq.1, hnw rfl, (hq.2.2.2.sift fun y hy => Or.inr (N y hy)).mono (by decide) (by decide)⟩⟩
theorem main_1_1 : Claimed_1_1 := comes_1 fun _ _ _ _ _ _ h hF => ⟨h.1, hF⟩
theorem main_1_2 : Claimed_1_2 := comes_1 fun _ _ _ _ _ _ h hF => ⟨h.2.1, hF⟩
end Jvm.Pilot.@@N@@
-- part witness
namespace Jvm.Pilot.@@N@@
open Jvm Jvm.ClassFile Sem Op Lib Jvm.Free Jvm.Stand Jvm.Pilot.@@N@@.Jvm.D
/-! MADE BY PROGRAM (witnessworld.py) out of the Statement's table words and the real class files: 20 classes; the members and pool entries that the words name. The judged class is class 1, her method 1. -/
namespace start1
open Jvm.ClassFile
def u (s : String) : CpInfo := .utf8 (stringToUtf16 s)
/-- a pool by its gaps: so many unusable entries, then the entry; so many at the end -/
def gap : Nat → List CpInfo → List CpInfo
  | 0, r => r
  | n + 1, r => .unusable :: gap n r
def poolList (es : List (Nat × CpInfo)) (last : Nat) : List CpInfo := es.foldr (fun e r => gap e.1 (e.2 :: r)) (gap last [])
def pool (es : List (Nat × CpInfo)) (last : Nat) : Array CpInfo := ⟨poolList es last⟩
def fileOf (pool : Array CpInfo) (this : Nat) (attrs : Array Attribute := #[]) (ms : Array MethodInfo := #[]) (fl : Nat := 33) (sup : Nat := 0) (ifs : Array Nat := #[]) (fds : Array FieldInfo := #[]) : ClassFile where
  minorVersion := 0
  majorVersion := 65
  constantPool := pool
  accessFlags := fl
  thisClass := this
  superClass := sup
  interfaces := ifs
  fields := fds
  methods := ms
  attributes := attrs
def plain (name : String) (sup : Option ClassId) : Class where
  name := name
  kind := .ordinary
  loader := none
  accessFlags := 33
  super := sup
  interfaces := #[]
  cf := none
  fields := #[]
  methods := #[]
  instanceTypes := #[]
  staticTypes := #[]
  resolved := #[]
  callSites := []
  init := .initialized
  statics := none
  mirror := none

def pool0 : Array CpInfo := pool [(5, u "<init>"), (0, u "()V"), (1, .class_ 10), (1, u "java/lang/Object")] 113

def k0c0 : Code := { maxStack := 0, maxLocals := 1, code := object_method_1_code, exceptionTable := #[], attributes := #[] }
def k0m0 : Method := { name := "<init>", desc := "()V", sig := { parameters := [], returnType := none }, accessFlags := 1, code := some k0c0 }
/-- java/lang/Object -/
def k0 : Class := { plain "java/lang/Object" none with
  accessFlags := 33
  interfaces := #[]
  cf := some (fileOf pool0 8 #[] #[{ accessFlags := 1, nameIndex := 5, descriptorIndex := 6, attributes := #[] }] 33 0 #[] #[])
  fields := #[]
  methods := #[k0m0]
  instanceTypes := #[]
  staticTypes := #[]
  resolved := Array.replicate 124 none
  statics := none }

def pool1 : Array CpInfo := pool [(2, .class_ 4), (1, u "java/lang/Object"), (0, u "<init>"), (0, u "()V"), (0, .class_ 8), (0, u "java/lang/String"), (0, .methodref 7 10), (0, .nameAndType 5 11), (0, u "([C)V"), (0, .class_ 13), (0, u "com/example/structured_keyword_search/structuredkeywordsearch/source/Column"), (0, .methodref 12 15), (0, .nameAndType 5 16), (0, u "(Ljava/lang/String;IZ)V"), (0, .methodref 12 18), (0, .nameAndType 19 20), (0, u "isPadded"), (0, u "()Z"), (0, .class_ 22), (0, u "com/example/structured_keyword_search/structuredkeywordsearch/source/ColumnIsPaddedPinLaw"), (2, u "law"), (0, u "(IIII)Z")] 5

def k1m0 : Method := { name := "<init>", desc := "()V", sig := { parameters := [], returnType := none }, accessFlags := 1, code := none }
def k1c1 : Code := { maxStack := 5, maxLocals := 11, code := code, exceptionTable := #[], attributes := #[] }
def k1m1 : Method := { name := "law", desc := "(IIII)Z", sig := { parameters := [.int, .int, .int, .int], returnType := some .boolean }, accessFlags := 9, code := some k1c1 }
/-- com/example/structured_keyword_search/structuredkeywordsearch/source/ColumnIsPaddedPinLaw -/
def k1 : Class := { plain "com/example/structured_keyword_search/structuredkeywordsearch/source/ColumnIsPaddedPinLaw" (some 0) with
  accessFlags := 49
  interfaces := #[]
  cf := some (fileOf pool1 21 #[] #[{ accessFlags := 1, nameIndex := 5, descriptorIndex := 6, attributes := #[] }, { accessFlags := 9, nameIndex := 25, descriptorIndex := 26, attributes := #[] }] 49 2 #[] #[])
  fields := #[]
  methods := #[k1m0, k1m1]
  instanceTypes := #[]
  staticTypes := #[]
  resolved := Array.replicate 32 none
  statics := none }

def pool2 : Array CpInfo := pool [(1, .class_ 2), (0, u "java/io/Serializable"), (0, .class_ 4), (0, u "java/lang/Object")] 2

/-- java/io/Serializable -/
def k2 : Class := { plain "java/io/Serializable" (some 0) with
  accessFlags := 1537
  interfaces := #[]
  cf := some (fileOf pool2 1 #[] #[] 1537 3 #[] #[])
  fields := #[]
  methods := #[]
  instanceTypes := #[]
  staticTypes := #[]
  resolved := Array.replicate 7 none
  statics := none }

def pool3 : Array CpInfo := pool [(1, .class_ 2), (0, u "java/lang/Comparable"), (0, .class_ 4), (0, u "java/lang/Object")] 7

/-- java/lang/Comparable -/
def k3 : Class := { plain "java/lang/Comparable" (some 0) with
  accessFlags := 1537
  interfaces := #[]
  cf := some (fileOf pool3 1 #[] #[] 1537 3 #[] #[])
  fields := #[]
  methods := #[]
  instanceTypes := #[]
  staticTypes := #[]
  resolved := Array.replicate 12 none
  statics := none }

def pool4 : Array CpInfo := pool [(2, .class_ 4), (1, u "java/lang/CharSequence"), (42, .class_ 48), (0, u "java/lang/CharSequence$1CodePointIterator"), (10, .class_ 60), (0, u "java/lang/CharSequence$1CharIterator"), (5, .class_ 67), (0, u "java/lang/Object")] 63

/-- java/lang/CharSequence -/
def k4 : Class := { plain "java/lang/CharSequence" (some 0) with
  accessFlags := 1537
  interfaces := #[]
  cf := some (fileOf pool4 2 #[.nestMembers #[47, 59]] #[] 1537 66 #[] #[])
  fields := #[]
  methods := #[]
  instanceTypes := #[]
  staticTypes := #[]
  resolved := Array.replicate 131 none
  statics := none }

def pool5 : Array CpInfo := pool [(1, .class_ 2), (0, u "java/lang/constant/Constable"), (0, .class_ 4), (0, u "java/lang/Object")] 6

/-- java/lang/constant/Constable -/
def k5 : Class := { plain "java/lang/constant/Constable" (some 0) with
  accessFlags := 1537
  interfaces := #[]
  cf := some (fileOf pool5 1 #[] #[] 1537 3 #[] #[])
  fields := #[]
  methods := #[]
  instanceTypes := #[]
  staticTypes := #[]
  resolved := Array.replicate 11 none
  statics := none }

def pool6 : Array CpInfo := pool [(1, .class_ 2), (0, u "java/lang/constant/ConstantDesc"), (0, .class_ 4), (0, u "java/lang/Object")] 32

/-- java/lang/constant/ConstantDesc -/
def k6 : Class := { plain "java/lang/constant/ConstantDesc" (some 0) with
  accessFlags := 1537
  interfaces := #[]
  cf := some (fileOf pool6 1 #[] #[] 1537 3 #[] #[])
  fields := #[]
  methods := #[]
  instanceTypes := #[]
  staticTypes := #[]
  resolved := Array.replicate 37 none
  statics := none }

def pool7 : Array CpInfo := pool [(1, .methodref 2 3), (0, .class_ 4), (0, .nameAndType 5 6), (0, u "java/lang/Object"), (0, u "<init>"), (0, u "()V"), (2, .fieldref 10 11), (0, .class_ 12), (0, .nameAndType 13 14), (0, u "java/lang/String"), (0, u "value"), (0, u "[B"), (0, .fieldref 10 16), (0, .nameAndType 17 18), (0, u "coder"), (0, u "B"), (2, u "hash"), (0, u "I"), (2, u "hashIsZero"), (0, u "Z"), (0, .methodref 10 28), (0, .nameAndType 5 29), (0, u "([CIILjava/lang/Void;)V"), (8, .fieldref 10 39), (0, .nameAndType 40 26), (0, u "COMPACT_STRINGS"), (1, .class_ 44), (1, u "java/lang/StringUTF16"), (0, u "compress"), (1, .methodref 42 48), (0, .nameAndType 49 50), (0, u "coderFromArrayLen"), (0, u "([BI)B"), (126, .methodref 42 178), (0, .nameAndType 45 179), (0, u "([CII)[B"), (395, .class_ 576), (0, u "java/lang/CharSequence"), (22, u "CASE_INSENSITIVE_ORDER"), (0, u "Ljava/util/Comparator;"), (409, u "([C)V"), (90, u "serialPersistentFields"), (0, u "[Ljava/io/ObjectStreamField;"), (0, .class_ 1104), (0, u "java/lang/String$CaseInsensitiveComparator"), (1, .class_ 1107), (0, u "java/io/Serializable"), (0, .class_ 1109), (0, u "java/lang/Comparable"), (0, .class_ 1111), (0, u "java/lang/constant/Constable"), (0, .class_ 1113), (0, u "java/lang/constant/ConstantDesc"), (2, u "serialVersionUID"), (0, u "J"), (3, u "REPL"), (0, u "C"), (2, u "LATIN1"), (1, u "UTF16")] 323

def k7m0 : Method := { name := "<init>", desc := "()V", sig := { parameters := [], returnType := none }, accessFlags := 1, code := none }
def k7c1 : Code := { maxStack := 5, maxLocals := 2, code := jdk_42_method_3_code, exceptionTable := #[], attributes := #[] }
def k7m1 : Method := { name := "<init>", desc := "([C)V", sig := { parameters := [(.array .char)], returnType := none }, accessFlags := 1, code := some k7c1 }
def k7c2 : Code := { maxStack := 4, maxLocals := 6, code := jdk_42_method_149_code, exceptionTable := #[], attributes := #[] }
def k7m2 : Method := { name := "<init>", desc := "([CIILjava/lang/Void;)V", sig := { parameters := [(.array .char), .int, .int, (.object "java/lang/Void")], returnType := none }, accessFlags := 2, code := some k7c2 }
/-- java/lang/String -/
def k7 : Class := { plain "java/lang/String" (some 0) with
  accessFlags := 49
  interfaces := #[2, 3, 4, 5, 6]
  cf := some (fileOf pool7 10 #[.nestMembers #[1103]] #[{ accessFlags := 1, nameIndex := 5, descriptorIndex := 6, attributes := #[] }, { accessFlags := 1, nameIndex := 5, descriptorIndex := 1010, attributes := #[] }, { accessFlags := 2, nameIndex := 5, descriptorIndex := 29, attributes := #[] }] 49 2 #[1106, 1108, 575, 1110, 1112] #[{ accessFlags := 18, nameIndex := 13, descriptorIndex := 14, attributes := #[] }, { accessFlags := 18, nameIndex := 17, descriptorIndex := 18, attributes := #[] }, { accessFlags := 2, nameIndex := 21, descriptorIndex := 22, attributes := #[] }, { accessFlags := 2, nameIndex := 25, descriptorIndex := 26, attributes := #[] }, { accessFlags := 26, nameIndex := 1116, descriptorIndex := 1117, attributes := #[] }, { accessFlags := 24, nameIndex := 40, descriptorIndex := 26, attributes := #[] }, { accessFlags := 26, nameIndex := 1101, descriptorIndex := 1102, attributes := #[] }, { accessFlags := 26, nameIndex := 1121, descriptorIndex := 1122, attributes := #[] }, { accessFlags := 25, nameIndex := 599, descriptorIndex := 600, attributes := #[] }, { accessFlags := 24, nameIndex := 1125, descriptorIndex := 18, attributes := #[] }, { accessFlags := 24, nameIndex := 1127, descriptorIndex := 18, attributes := #[] }])
  fields := #[{ name := "value", type := (.array .byte), accessFlags := 18, slot := 0, constantValue := 0 }, { name := "coder", type := .byte, accessFlags := 18, slot := 1, constantValue := 0 }, { name := "hash", type := .int, accessFlags := 2, slot := 2, constantValue := 0 }, { name := "hashIsZero", type := .boolean, accessFlags := 2, slot := 3, constantValue := 0 }, { name := "serialVersionUID", type := .long, accessFlags := 26, slot := 0, constantValue := 0 }, { name := "COMPACT_STRINGS", type := .boolean, accessFlags := 24, slot := 1, constantValue := 0 }, { name := "serialPersistentFields", type := (.array (.object "java/io/ObjectStreamField")), accessFlags := 26, slot := 2, constantValue := 0 }, { name := "REPL", type := .char, accessFlags := 26, slot := 3, constantValue := 0 }, { name := "CASE_INSENSITIVE_ORDER", type := (.object "java/util/Comparator"), accessFlags := 25, slot := 4, constantValue := 0 }, { name := "LATIN1", type := .byte, accessFlags := 24, slot := 5, constantValue := 0 }, { name := "UTF16", type := .byte, accessFlags := 24, slot := 6, constantValue := 0 }]
  methods := #[k7m0, k7m1, k7m2]
  instanceTypes := #[(.array .byte), .byte, .int, .boolean]
  staticTypes := #[.long, .boolean, (.array (.object "java/io/ObjectStreamField")), .char, (.object "java/util/Comparator"), .byte, .byte]
  resolved := Array.replicate 1451 none
  statics := some 0 }

def pool8 : Array CpInfo := pool [(6, .class_ 8), (1, u "java/lang/Object"), (0, u "<init>"), (0, u "()V"), (1, .class_ 14), (1, u "java/lang/StringUTF16"), (31, u "$assertionsDisabled"), (0, u "Z"), (13, u "HI_BYTE_SHIFT"), (0, u "I"), (2, u "LO_BYTE_SHIFT"), (49, .methodref 12 116), (0, .nameAndType 117 118), (0, u "compress"), (0, u "([CI[BII)I"), (3, u "([CII)[B"), (138, u "coderFromArrayLen"), (0, u "([BI)B"), (106, .class_ 371), (1, u "java/lang/StringUTF16$LinesSpliterator"), (58, u "MAX_LENGTH"), (196, .class_ 628), (0, u "java/lang/StringUTF16$CodePointsSpliterator"), (0, .class_ 630), (0, u "java/lang/StringUTF16$CharsSpliterator")] 4

def k8m0 : Method := { name := "<init>", desc := "()V", sig := { parameters := [], returnType := none }, accessFlags := 0, code := none }
def k8c1 : Code := { maxStack := 2, maxLocals := 2, code := jdk_52_method_15_code, exceptionTable := #[], attributes := #[] }
def k8m1 : Method := { name := "coderFromArrayLen", desc := "([BI)B", sig := { parameters := [(.array .byte), .int], returnType := some .byte }, accessFlags := 8, code := some k8c1 }
def k8c2 : Code := { maxStack := 5, maxLocals := 6, code := jdk_52_method_16_code, exceptionTable := #[], attributes := #[] }
def k8m2 : Method := { name := "compress", desc := "([CII)[B", sig := { parameters := [(.array .char), .int, .int], returnType := some (.array .byte) }, accessFlags := 9, code := some k8c2 }
def k8c3 : Code := { maxStack := 3, maxLocals := 7, code := jdk_52_method_21_code, exceptionTable := #[], attributes := #[] }
def k8m3 : Method := { name := "compress", desc := "([CI[BII)I", sig := { parameters := [(.array .char), .int, (.array .byte), .int, .int], returnType := some .int }, accessFlags := 9, code := some k8c3 }
/-- java/lang/StringUTF16 -/
def k8 : Class := { plain "java/lang/StringUTF16" (some 0) with
  accessFlags := 48
  interfaces := #[]
  cf := some (fileOf pool8 12 #[.nestMembers #[627, 629, 369]] #[{ accessFlags := 0, nameIndex := 9, descriptorIndex := 10, attributes := #[] }, { accessFlags := 8, nameIndex := 261, descriptorIndex := 262, attributes := #[] }, { accessFlags := 9, nameIndex := 117, descriptorIndex := 122, attributes := #[] }, { accessFlags := 9, nameIndex := 117, descriptorIndex := 118, attributes := #[] }] 48 6 #[] #[{ accessFlags := 26, nameIndex := 61, descriptorIndex := 62, attributes := #[] }, { accessFlags := 26, nameIndex := 65, descriptorIndex := 62, attributes := #[] }, { accessFlags := 24, nameIndex := 430, descriptorIndex := 62, attributes := #[] }, { accessFlags := 4120, nameIndex := 46, descriptorIndex := 47, attributes := #[] }])
  fields := #[{ name := "HI_BYTE_SHIFT", type := .int, accessFlags := 26, slot := 0, constantValue := 0 }, { name := "LO_BYTE_SHIFT", type := .int, accessFlags := 26, slot := 1, constantValue := 0 }, { name := "MAX_LENGTH", type := .int, accessFlags := 24, slot := 2, constantValue := 0 }, { name := "$assertionsDisabled", type := .boolean, accessFlags := 4120, slot := 3, constantValue := 0 }]
  methods := #[k8m0, k8m1, k8m2, k8m3]
  instanceTypes := #[]
  staticTypes := #[.int, .int, .int, .boolean]
  resolved := Array.replicate 635 none
  statics := none }

def pool9 : Array CpInfo := pool [(1, .methodref 2 3), (0, .class_ 4), (0, .nameAndType 5 6), (0, u "java/lang/Object"), (0, u "<init>"), (0, u "()V"), (0, .fieldref 8 9), (0, .class_ 10), (0, .nameAndType 11 12), (0, u "com/example/structured_keyword_search/structuredkeywordsearch/source/Column"), (0, u "mName"), (0, u "Ljava/lang/String;"), (0, .fieldref 8 14), (0, .nameAndType 15 16), (0, u "mJdbcType"), (0, u "I"), (0, .fieldref 8 18), (0, .nameAndType 19 20), (0, u "mText"), (0, u "Z"), (2, u "(Ljava/lang/String;IZ)V"), (5, u "()Z"), (0, u "isPadded")] 4

def k9c0 : Code := { maxStack := 2, maxLocals := 4, code := prog_22_method_1_code, exceptionTable := #[], attributes := #[] }
def k9m0 : Method := { name := "<init>", desc := "(Ljava/lang/String;IZ)V", sig := { parameters := [(.object "java/lang/String"), .int, .boolean], returnType := none }, accessFlags := 1, code := some k9c0 }
def k9c1 : Code := { maxStack := 2, maxLocals := 1, code := prog_22_method_4_code, exceptionTable := #[], attributes := #[] }
def k9m1 : Method := { name := "isPadded", desc := "()Z", sig := { parameters := [], returnType := some .boolean }, accessFlags := 0, code := some k9c1 }
/-- com/example/structured_keyword_search/structuredkeywordsearch/source/Column -/
def k9 : Class := { plain "com/example/structured_keyword_search/structuredkeywordsearch/source/Column" (some 0) with
  accessFlags := 49
  interfaces := #[]
  cf := some (fileOf pool9 8 #[] #[{ accessFlags := 1, nameIndex := 5, descriptorIndex := 23, attributes := #[] }, { accessFlags := 0, nameIndex := 30, descriptorIndex := 29, attributes := #[] }] 49 2 #[] #[{ accessFlags := 18, nameIndex := 11, descriptorIndex := 12, attributes := #[] }, { accessFlags := 18, nameIndex := 15, descriptorIndex := 16, attributes := #[] }, { accessFlags := 18, nameIndex := 19, descriptorIndex := 20, attributes := #[] }])
  fields := #[{ name := "mName", type := (.object "java/lang/String"), accessFlags := 18, slot := 0, constantValue := 0 }, { name := "mJdbcType", type := .int, accessFlags := 18, slot := 1, constantValue := 0 }, { name := "mText", type := .boolean, accessFlags := 18, slot := 2, constantValue := 0 }]
  methods := #[k9m0, k9m1]
  instanceTypes := #[(.object "java/lang/String"), .int, .boolean]
  staticTypes := #[]
  resolved := Array.replicate 35 none
  statics := none }

def pool10 : Array CpInfo := pool [(4, .class_ 6), (1, u "java/lang/Object"), (0, u "<init>"), (0, u "()V"), (5, .class_ 16), (1, u "java/lang/StringLatin1"), (104, u "$assertionsDisabled"), (0, u "Z"), (98, .class_ 223), (1, u "java/lang/StringLatin1$LinesSpliterator"), (166, .class_ 391), (0, u "java/lang/StringLatin1$CharsSpliterator")] 3

def k10m0 : Method := { name := "<init>", desc := "()V", sig := { parameters := [], returnType := none }, accessFlags := 0, code := none }
/-- java/lang/StringLatin1 -/
def k10 : Class := { plain "java/lang/StringLatin1" (some 0) with
  accessFlags := 48
  interfaces := #[]
  cf := some (fileOf pool10 14 #[.nestMembers #[390, 221]] #[{ accessFlags := 0, nameIndex := 7, descriptorIndex := 8, attributes := #[] }] 48 4 #[] #[{ accessFlags := 4120, nameIndex := 121, descriptorIndex := 122, attributes := #[] }])
  fields := #[{ name := "$assertionsDisabled", type := .boolean, accessFlags := 4120, slot := 0, constantValue := 0 }]
  methods := #[k10m0]
  instanceTypes := #[]
  staticTypes := #[.boolean]
  resolved := Array.replicate 395 none
  statics := none }

def pool11 : Array CpInfo := pool [(2, .class_ 4), (1, u "java/lang/Object"), (0, u "<init>"), (0, u "()V"), (17, .class_ 26), (1, u "jdk/internal/util/Preconditions"), (28, .class_ 56), (0, u "jdk/internal/util/Preconditions$4"), (57, .class_ 115), (0, u "jdk/internal/util/Preconditions$1"), (7, u "SIOOBE_FORMATTER"), (0, u "Ljava/util/function/BiFunction;"), (0, .class_ 126), (0, u "jdk/internal/util/Preconditions$2"), (3, u "AIOOBE_FORMATTER"), (0, .class_ 132), (0, u "jdk/internal/util/Preconditions$3"), (3, u "IOOBE_FORMATTER")] 57

def k11m0 : Method := { name := "<init>", desc := "()V", sig := { parameters := [], returnType := none }, accessFlags := 1, code := none }
/-- jdk/internal/util/Preconditions -/
def k11 : Class := { plain "jdk/internal/util/Preconditions" (some 0) with
  accessFlags := 33
  interfaces := #[]
  cf := some (fileOf pool11 24 #[.nestMembers #[55, 131, 125, 114]] #[{ accessFlags := 1, nameIndex := 5, descriptorIndex := 6, attributes := #[] }] 33 2 #[] #[{ accessFlags := 25, nameIndex := 123, descriptorIndex := 124, attributes := #[] }, { accessFlags := 25, nameIndex := 130, descriptorIndex := 124, attributes := #[] }, { accessFlags := 25, nameIndex := 136, descriptorIndex := 124, attributes := #[] }])
  fields := #[{ name := "SIOOBE_FORMATTER", type := (.object "java/util/function/BiFunction"), accessFlags := 25, slot := 0, constantValue := 0 }, { name := "AIOOBE_FORMATTER", type := (.object "java/util/function/BiFunction"), accessFlags := 25, slot := 1, constantValue := 0 }, { name := "IOOBE_FORMATTER", type := (.object "java/util/function/BiFunction"), accessFlags := 25, slot := 2, constantValue := 0 }]
  methods := #[k11m0]
  instanceTypes := #[]
  staticTypes := #[(.object "java/util/function/BiFunction"), (.object "java/util/function/BiFunction"), (.object "java/util/function/BiFunction")]
  resolved := Array.replicate 194 none
  statics := some 1 }

def pool12 : Array CpInfo := pool [(9, u "<init>"), (6, .class_ 18), (1, u "java/lang/Object"), (0, u "()V"), (1, .class_ 23), (1, u "jdk/internal/util/ArraysSupport"), (0, u "LOG2_ARRAY_LONG_INDEX_SCALE"), (0, u "I"), (2, u "U"), (0, u "Ljdk/internal/misc/Unsafe;"), (8, u "BIG_ENDIAN"), (0, u "Z"), (8, u "LOG2_BYTE_BIT_SIZE"), (4, u "LOG2_ARRAY_INT_INDEX_SCALE"), (54, u "JLA"), (0, u "Ljdk/internal/access/JavaLangAccess;"), (11, u "LOG2_ARRAY_BOOLEAN_INDEX_SCALE"), (9, u "LOG2_ARRAY_BYTE_INDEX_SCALE"), (5, u "LOG2_ARRAY_CHAR_INDEX_SCALE"), (5, u "LOG2_ARRAY_SHORT_INDEX_SCALE"), (18, u "LOG2_ARRAY_FLOAT_INDEX_SCALE"), (24, u "LOG2_ARRAY_DOUBLE_INDEX_SCALE"), (89, u "T_BOOLEAN"), (2, u "T_CHAR"), (1, u "T_FLOAT"), (1, u "T_DOUBLE"), (1, u "T_BYTE"), (1, u "T_SHORT"), (1, u "T_INT"), (1, u "T_LONG"), (1, u "SOFT_MAX_ARRAY_LENGTH")] 83

def k12m0 : Method := { name := "<init>", desc := "()V", sig := { parameters := [], returnType := none }, accessFlags := 2, code := none }
/-- jdk/internal/util/ArraysSupport -/
def k12 : Class := { plain "jdk/internal/util/ArraysSupport" (some 0) with
  accessFlags := 33
  interfaces := #[]
  cf := some (fileOf pool12 21 #[] #[{ accessFlags := 2, nameIndex := 9, descriptorIndex := 19, attributes := #[] }] 33 16 #[] #[{ accessFlags := 24, nameIndex := 28, descriptorIndex := 29, attributes := #[] }, { accessFlags := 26, nameIndex := 38, descriptorIndex := 39, attributes := #[] }, { accessFlags := 25, nameIndex := 121, descriptorIndex := 25, attributes := #[] }, { accessFlags := 25, nameIndex := 131, descriptorIndex := 25, attributes := #[] }, { accessFlags := 25, nameIndex := 137, descriptorIndex := 25, attributes := #[] }, { accessFlags := 25, nameIndex := 143, descriptorIndex := 25, attributes := #[] }, { accessFlags := 25, nameIndex := 53, descriptorIndex := 25, attributes := #[] }, { accessFlags := 25, nameIndex := 24, descriptorIndex := 25, attributes := #[] }, { accessFlags := 25, nameIndex := 162, descriptorIndex := 25, attributes := #[] }, { accessFlags := 25, nameIndex := 187, descriptorIndex := 25, attributes := #[] }, { accessFlags := 26, nameIndex := 48, descriptorIndex := 25, attributes := #[] }, { accessFlags := 25, nameIndex := 277, descriptorIndex := 25, attributes := #[] }, { accessFlags := 25, nameIndex := 280, descriptorIndex := 25, attributes := #[] }, { accessFlags := 25, nameIndex := 282, descriptorIndex := 25, attributes := #[] }, { accessFlags := 25, nameIndex := 284, descriptorIndex := 25, attributes := #[] }, { accessFlags := 25, nameIndex := 286, descriptorIndex := 25, attributes := #[] }, { accessFlags := 25, nameIndex := 288, descriptorIndex := 25, attributes := #[] }, { accessFlags := 25, nameIndex := 290, descriptorIndex := 25, attributes := #[] }, { accessFlags := 25, nameIndex := 292, descriptorIndex := 25, attributes := #[] }, { accessFlags := 26, nameIndex := 108, descriptorIndex := 109, attributes := #[] }, { accessFlags := 25, nameIndex := 294, descriptorIndex := 25, attributes := #[] }])
  fields := #[{ name := "U", type := (.object "jdk/internal/misc/Unsafe"), accessFlags := 24, slot := 0, constantValue := 0 }, { name := "BIG_ENDIAN", type := .boolean, accessFlags := 26, slot := 1, constantValue := 0 }, { name := "LOG2_ARRAY_BOOLEAN_INDEX_SCALE", type := .int, accessFlags := 25, slot := 2, constantValue := 0 }, { name := "LOG2_ARRAY_BYTE_INDEX_SCALE", type := .int, accessFlags := 25, slot := 3, constantValue := 0 }, { name := "LOG2_ARRAY_CHAR_INDEX_SCALE", type := .int, accessFlags := 25, slot := 4, constantValue := 0 }, { name := "LOG2_ARRAY_SHORT_INDEX_SCALE", type := .int, accessFlags := 25, slot := 5, constantValue := 0 }, { name := "LOG2_ARRAY_INT_INDEX_SCALE", type := .int, accessFlags := 25, slot := 6, constantValue := 0 }, { name := "LOG2_ARRAY_LONG_INDEX_SCALE", type := .int, accessFlags := 25, slot := 7, constantValue := 0 }, { name := "LOG2_ARRAY_FLOAT_INDEX_SCALE", type := .int, accessFlags := 25, slot := 8, constantValue := 0 }, { name := "LOG2_ARRAY_DOUBLE_INDEX_SCALE", type := .int, accessFlags := 25, slot := 9, constantValue := 0 }, { name := "LOG2_BYTE_BIT_SIZE", type := .int, accessFlags := 26, slot := 10, constantValue := 0 }, { name := "T_BOOLEAN", type := .int, accessFlags := 25, slot := 11, constantValue := 0 }, { name := "T_CHAR", type := .int, accessFlags := 25, slot := 12, constantValue := 0 }, { name := "T_FLOAT", type := .int, accessFlags := 25, slot := 13, constantValue := 0 }, { name := "T_DOUBLE", type := .int, accessFlags := 25, slot := 14, constantValue := 0 }, { name := "T_BYTE", type := .int, accessFlags := 25, slot := 15, constantValue := 0 }, { name := "T_SHORT", type := .int, accessFlags := 25, slot := 16, constantValue := 0 }, { name := "T_INT", type := .int, accessFlags := 25, slot := 17, constantValue := 0 }, { name := "T_LONG", type := .int, accessFlags := 25, slot := 18, constantValue := 0 }, { name := "JLA", type := (.object "jdk/internal/access/JavaLangAccess"), accessFlags := 26, slot := 19, constantValue := 0 }, { name := "SOFT_MAX_ARRAY_LENGTH", type := .int, accessFlags := 25, slot := 20, constantValue := 0 }]
  methods := #[k12m0]
  instanceTypes := #[]
  staticTypes := #[(.object "jdk/internal/misc/Unsafe"), .boolean, .int, .int, .int, .int, .int, .int, .int, .int, .int, .int, .int, .int, .int, .int, .int, .int, .int, (.object "jdk/internal/access/JavaLangAccess"), .int]
  resolved := Array.replicate 378 none
  statics := none }

def pool13 : Array CpInfo := pool [(1, u "java/lang/Cloneable"), (0, .class_ 1), (0, u "java/lang/Object"), (0, .class_ 3)] 3

/-- java/lang/Cloneable -/
def k13 : Class := { plain "java/lang/Cloneable" (some 0) with
  accessFlags := 1537
  interfaces := #[]
  cf := some (fileOf pool13 2 #[] #[] 1537 4 #[] #[])
  fields := #[]
  methods := #[]
  instanceTypes := #[]
  staticTypes := #[]
  resolved := Array.replicate 8 none
  statics := none }

/-- the primitive byte -/
def k14 : Class := { plain "byte" none with kind := .primitive 'B', accessFlags := 0x411 }
/-- [B -/
def k15 : Class := { plain "[B" (some 0) with kind := .array 14 .byte, interfaces := #[13, 2], accessFlags := 1041 }

/-- the primitive char -/
def k16 : Class := { plain "char" none with kind := .primitive 'C', accessFlags := 0x411 }
/-- [C -/
def k17 : Class := { plain "[C" (some 0) with kind := .array 16 .char, interfaces := #[13, 2], accessFlags := 1041 }

/-- the primitive int -/
def k18 : Class := { plain "int" none with kind := .primitive 'I', accessFlags := 0x411 }
/-- [I -/
def k19 : Class := { plain "[I" (some 0) with kind := .array 18 .int, interfaces := #[13, 2], accessFlags := 1041 }

def heap : Heap := #[{ cls := 7, slots := #[.long 0, .int 1, .null, .int 0, .null, .int 0, .int 0], vm := .statics 7 },
  { cls := 11, slots := #[.null, .null, .null], vm := .statics 11 }]
def classes : Array Class := #[k0, k1, k2, k3, k4, k5, k6, k7, k8, k9, k10, k11, k12, k13, k14, k15, k16, k17, k18, k19]
def interned : List (Array UInt16 × Addr) := []
def slotsUsed : Nat := 10
def theMethod : MethodId := ⟨1, 1⟩
def args0 : Array Value := #[.int 0, .int 1, .int 66, .int 1]
def aboutOver (below : List Frame) : State where
  vm := { classes := classes, interned := interned.toArray }
  heap := heap
  slotsUsed := slotsUsed
  threads := #[{ frames := .invoking theMethod args0 :: below }]
def below0 : List Frame := [.native { method := ⟨0, 0⟩, args := #[] }]
def about1 : State := aboutOver below0
def p0 : Program := .bare "" "" ""
def e0 : Env := launch0.env 0 0 0
theorem w_frames : about1.frames = Frame.invoking theMethod args0 :: below0 := rfl
set_option maxRecDepth 65536 in
theorem w_args : argsFit about1.vm theMethod args0 = true := by decide +kernel
set_option maxRecDepth 65536 in
theorem w_heap : heapFits about1 = true := by decide +kernel
set_option maxRecDepth 65536 in
theorem w_runnable : about1.curStatus? = some .runnable := by decide +kernel
set_option maxRecDepth 65536 in
theorem w_alone : about1.alone = true := by decide +kernel
set_option maxRecDepth 65536 in
theorem w_named : about1.methodNamed? x = some theMethod := by decide +kernel
set_option maxRecDepth 65536 in
theorem w_hears : about1.hears theMethod below0 = true := by decide +kernel
set_option maxRecDepth 65536 in
theorem w_ripe : about1.ripe theMethod args0 below0 = true := by decide +kernel
theorem w_running : about1.status = .running := rfl
set_option maxRecDepth 65536 in
theorem w_room : about1.hasRoom e0.platform room_1 = true :=
  launch0.hasRoom_least _ room_1 (by decide +kernel) (by decide +kernel) (by decide +kernel) (by decide +kernel) (by decide +kernel) (by decide +kernel)
theorem allAtoms_all (ts : List Jvm.Cond) (a : Array Jvm.Value) (st : Jvm.State) : (allAtoms ts).before a st = ts.all (fun c => c.before a st) := by
  induction ts with
  | nil => rfl
  | cons c t ih =>
    show (Jvm.Cond.and c (allAtoms t)).before a st = _
    rw [Jvm.Cond.before_and, ih, List.all_cons]
def words1 : List Jvm.Cond := Jvm.Cond.code x code maxLocals ret :: tables_1
/-- a 'code' word, met by the world's own term for the bytes: nothing is compared byte by byte -/
theorem code_word {y : MethodName} {bytes : ByteArray} {mx : Nat} {rt : Option FieldType} {a : Array Value} {s : State} {m : MethodId} {meth : Method} {c : Code} (h1 : s.methodNamed? y = some m) (h2 : s.vm.method? m = some meth) (h3 : meth.code = some c) (h4 : c.code = bytes)
    (h5 : (c.maxLocals == mx && c.exceptionTable.isEmpty && decide (c.maxStack ≤ mostOperands) && decide (meth.sig.returnType = rt) && !meth.locks && decide (parseMethodDescriptor y.desc = some meth.sig)) = true) : (Jvm.Cond.code y bytes mx rt).before a s = true := by
  simp only [Bool.and_eq_true, beq_iff_eq, Bool.not_eq_true', decide_eq_true_eq] at h5
  obtain ⟨⟨⟨⟨⟨g1, g2⟩, g3⟩, g4⟩, g5⟩, g6⟩ := h5
  simp [Cond.before, Cond.holds, Cond.value, h1, h2, h3, h4, g1, g2, g3, g4, g5, g6]
def isCode : Jvm.Cond → Bool
  | .code _ _ _ _ => true
  | _ => false
theorem all_split {L : List Jvm.Cond} {P : Jvm.Cond → Bool} (h1 : L.all (fun c => isCode c || P c) = true) (h2 : ∀ c ∈ L.filter isCode, P c = true) : L.all P = true := by
  refine List.all_eq_true.mpr fun c hc => ?_
  have h := List.all_eq_true.mp h1 c hc
  rcases Bool.eq_false_or_eq_true (isCode c) with hi | hi
  · exact h2 c (List.mem_filter.mpr ⟨hc, hi⟩)
  · simpa [hi] using h
set_option maxRecDepth 65536 in
theorem w_c0 : (Jvm.Cond.code x code maxLocals ret).before args0 about1 = true := code_word (m := ⟨1, 1⟩) (meth := k1m1) (c := k1c1) (by decide +kernel) rfl rfl rfl (by decide +kernel)
set_option maxRecDepth 65536 in
theorem w_c1 : (Jvm.Cond.code ({ cls := "java/lang/String", name := "<init>", desc := "([C)V" } : Jvm.MethodName) jdk_42_method_3_code (2 : Nat) (Option.none : Option Jvm.ClassFile.FieldType)).before args0 about1 = true := code_word (m := ⟨7, 1⟩) (meth := k7m1) (c := k7c1) (by decide +kernel) rfl rfl rfl (by decide +kernel)
set_option maxRecDepth 65536 in
theorem w_c2 : (Jvm.Cond.code ({ cls := "java/lang/String", name := "<init>", desc := "([CIILjava/lang/Void;)V" } : Jvm.MethodName) jdk_42_method_149_code (6 : Nat) (Option.none : Option Jvm.ClassFile.FieldType)).before args0 about1 = true := code_word (m := ⟨7, 2⟩) (meth := k7m2) (c := k7c2) (by decide +kernel) rfl rfl rfl (by decide +kernel)
set_option maxRecDepth 65536 in
theorem w_c3 : (Jvm.Cond.code ({ cls := "java/lang/Object", name := "<init>", desc := "()V" } : Jvm.MethodName) object_method_1_code (1 : Nat) (Option.none : Option Jvm.ClassFile.FieldType)).before args0 about1 = true := code_word (m := ⟨0, 0⟩) (meth := k0m0) (c := k0c0) (by decide +kernel) rfl rfl rfl (by decide +kernel)
set_option maxRecDepth 65536 in
theorem w_c4 : (Jvm.Cond.code ({ cls := "java/lang/StringUTF16", name := "compress", desc := "([CII)[B" } : Jvm.MethodName) jdk_52_method_16_code (6 : Nat) (Option.some (Jvm.ClassFile.FieldType.array Jvm.ClassFile.FieldType.byte))).before args0 about1 = true := code_word (m := ⟨8, 2⟩) (meth := k8m2) (c := k8c2) (by decide +kernel) rfl rfl rfl (by decide +kernel)
set_option maxRecDepth 65536 in
theorem w_c5 : (Jvm.Cond.code ({ cls := "java/lang/StringUTF16", name := "compress", desc := "([CI[BII)I" } : Jvm.MethodName) jdk_52_method_21_code (7 : Nat) (Option.some Jvm.ClassFile.FieldType.int)).before args0 about1 = true := code_word (m := ⟨8, 3⟩) (meth := k8m3) (c := k8c3) (by decide +kernel) rfl rfl rfl (by decide +kernel)
set_option maxRecDepth 65536 in
theorem w_c6 : (Jvm.Cond.code ({ cls := "java/lang/StringUTF16", name := "coderFromArrayLen", desc := "([BI)B" } : Jvm.MethodName) jdk_52_method_15_code (2 : Nat) (Option.some Jvm.ClassFile.FieldType.byte)).before args0 about1 = true := code_word (m := ⟨8, 1⟩) (meth := k8m1) (c := k8c1) (by decide +kernel) rfl rfl rfl (by decide +kernel)
set_option maxRecDepth 65536 in
theorem w_c7 : (Jvm.Cond.code ({ cls := "com/example/structured_keyword_search/structuredkeywordsearch/source/Column", name := "<init>", desc := "(Ljava/lang/String;IZ)V" } : Jvm.MethodName) prog_22_method_1_code (4 : Nat) (Option.none : Option Jvm.ClassFile.FieldType)).before args0 about1 = true := code_word (m := ⟨9, 0⟩) (meth := k9m0) (c := k9c0) (by decide +kernel) rfl rfl rfl (by decide +kernel)
set_option maxRecDepth 65536 in
theorem w_c8 : (Jvm.Cond.code ({ cls := "com/example/structured_keyword_search/structuredkeywordsearch/source/Column", name := "isPadded", desc := "()Z" } : Jvm.MethodName) prog_22_method_4_code (1 : Nat) (Option.some Jvm.ClassFile.FieldType.boolean)).before args0 about1 = true := code_word (m := ⟨9, 1⟩) (meth := k9m1) (c := k9c1) (by decide +kernel) rfl rfl rfl (by decide +kernel)
def codes1 : List Jvm.Cond := [Jvm.Cond.code x code maxLocals ret, Jvm.Cond.code ({ cls := "java/lang/String", name := "<init>", desc := "([C)V" } : Jvm.MethodName) jdk_42_method_3_code (2 : Nat) (Option.none : Option Jvm.ClassFile.FieldType), Jvm.Cond.code ({ cls := "java/lang/String", name := "<init>", desc := "([CIILjava/lang/Void;)V" } : Jvm.MethodName) jdk_42_method_149_code (6 : Nat) (Option.none : Option Jvm.ClassFile.FieldType), Jvm.Cond.code ({ cls := "java/lang/Object", name := "<init>", desc := "()V" } : Jvm.MethodName) object_method_1_code (1 : Nat) (Option.none : Option Jvm.ClassFile.FieldType), Jvm.Cond.code ({ cls := "java/lang/StringUTF16", name := "compress", desc := "([CII)[B" } : Jvm.MethodName) jdk_52_method_16_code (6 : Nat) (Option.some (Jvm.ClassFile.FieldType.array Jvm.ClassFile.FieldType.byte)), Jvm.Cond.code ({ cls := "java/lang/StringUTF16", name := "compress", desc := "([CI[BII)I" } : Jvm.MethodName) jdk_52_method_21_code (7 : Nat) (Option.some Jvm.ClassFile.FieldType.int), Jvm.Cond.code ({ cls := "java/lang/StringUTF16", name := "coderFromArrayLen", desc := "([BI)B" } : Jvm.MethodName) jdk_52_method_15_code (2 : Nat) (Option.some Jvm.ClassFile.FieldType.byte), Jvm.Cond.code ({ cls := "com/example/structured_keyword_search/structuredkeywordsearch/source/Column", name := "<init>", desc := "(Ljava/lang/String;IZ)V" } : Jvm.MethodName) prog_22_method_1_code (4 : Nat) (Option.none : Option Jvm.ClassFile.FieldType), Jvm.Cond.code ({ cls := "com/example/structured_keyword_search/structuredkeywordsearch/source/Column", name := "isPadded", desc := "()Z" } : Jvm.MethodName) prog_22_method_4_code (1 : Nat) (Option.some Jvm.ClassFile.FieldType.boolean)]
set_option maxRecDepth 65536 in
theorem codes_eq : words1.filter isCode = codes1 := rfl
theorem w_codes : ∀ c ∈ words1.filter isCode, c.before args0 about1 = true := by
  rw [codes_eq]
  intro c hc
  simp only [codes1, List.mem_cons, List.not_mem_nil, or_false] at hc
  rcases hc with rfl | rfl | rfl | rfl | rfl | rfl | rfl | rfl | rfl
  · exact w_c0
  · exact w_c1
  · exact w_c2
  · exact w_c3
  · exact w_c4
  · exact w_c5
  · exact w_c6
  · exact w_c7
  · exact w_c8
set_option maxRecDepth 65536 in
theorem w_t1 : (words1.take 24).all (fun c => isCode c || c.before args0 about1) = true := by decide +kernel
set_option maxRecDepth 65536 in
theorem w_t2 : ((words1.drop 24).take 24).all (fun c => isCode c || c.before args0 about1) = true := by decide +kernel
set_option maxRecDepth 65536 in
theorem w_t3 : ((words1.drop 24).drop 24).all (fun c => isCode c || c.before args0 about1) = true := by decide +kernel
theorem w_tables : (allAtoms (Jvm.Cond.code x code maxLocals ret :: tables_1)).before args0 about1 = true := by
  rw [allAtoms_all]
  show words1.all (fun c => c.before args0 about1) = true
  refine all_split ?_ w_codes
  rw [← List.take_append_drop 24 words1, List.all_append, w_t1, ← List.take_append_drop 24 (words1.drop 24), List.all_append, w_t2, w_t3]
  rfl
set_option maxRecDepth 65536 in
theorem w_rest : rest_1_c.before args0 about1 = true := by decide +kernel
set_option maxRecDepth 65536 in
theorem w_case : (Jvm.Cond.and given_1 narrow_1).before args0 about1 = true := by decide +kernel
theorem w_applies : (headSpec (Jvm.Cond.code x code maxLocals ret :: tables_1) room_1).applies x e0.platform about1 = true :=
  (Spec.applies_iff w_frames).mpr ⟨w_running, w_runnable, w_alone, w_named, w_hears, w_ripe, w_room, w_tables⟩
theorem atStart : AtStart classFile x code maxLocals ret World_1 tables_1 room_1 Calls_1 rest_1 Pre_1 launch0 p0 e0 about1 theMethod args0 below0 :=
  ⟨lists_1, trivial, launch0.admits_env _ _ _, launch0.least_env, fairChoices_fair.cas, fairChoices_fair.clock, w_frames, w_args, w_heap, w_applies, trivial, w_rest, w_case⟩
end start1
theorem witness_1 : WitnessClaimed_1 := ⟨start1.p0, start1.e0, start1.about1, start1.theMethod, start1.args0, start1.below0, start1.atStart⟩
end Jvm.Pilot.@@N@@
